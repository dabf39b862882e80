import JvmDerived
import JvmDerived.Pilot.@@N@@Statement
import JvmDerived.Pilot.@@N@@Code
set_option linter.unusedVariables false
set_option linter.unusedSimpArgs false
namespace Jvm.RoadKit
open Sem ClassFile Op Lib Jvm.Stand Jvm.Free Jvm.LawKit
section New
variable {p : Program} {l : Launch} {e : Env} {R : Room} {s : State} {m : MethodId} {args : Array Value} {below : List Frame} {meth : Method} {c : Code} {T : State} {locs : List Loc} {cells slots : Nat}
theorem retI (X : Stand p l e R s m args below meth c T locs cells slots) (hx : p.tables.exec = Jvm.exec) {pc : Nat} {Ls : Array Slot} {z : Int32} {rest : List Value} (hret : meth.sig.returnType = some .int) (hd : decode c.code pc = .ok (.ireturn, 1)) {fs : List Frame}
    (hl : ∀ (f : JFrame) (acts : List Action), f.method = m → f.locked = none → f.entered = [] → (doReturn e (T.setTop f) acts (some (.int z))).1 = T.setFrames fs) : Steps p.tables e below (T.setTop (mkF m pc Ls (.int z :: rest))) (T.setFrames fs) := by
  have hm' : T.vm.method? m = some meth := X.method'
  have hn : narrow .int (.int z) = .int z := rfl
  show Steps p.tables e below (T.setTop { method := m, pc := pc, locals := Ls, stack := _ :: rest, locked := none }) _
  jvm_step X.here [X.here.top, hx, hd, hm', hret, hn]
  first | (intro acts; rw [hl _ acts rfl rfl rfl]) | rw [hl _ _ rfl rfl rfl]
  exact Steps.refl _
end New
end Jvm.RoadKit
namespace Jvm.Pilot.@@N@@
open Jvm Jvm.ClassFile Sem Op Lib Jvm.Free Jvm.Stand Jvm.LawKit Jvm.RoadKit Bundle Jvm.Pilot.@@N@@.Jvm.D
section OwnWalk
variable {p : Program} {l : Launch} {e : Env} {R : Room} {s : State} {m : MethodId} {args : Array Value} {below : List Frame} {meth : Method} {c : Code} {T : State} {locs : List Loc} {cells slots : Nat} {Z : State} {a0 : Array Value} {h h0 : Heap}
variable {tb : Tables} {Post : Outcome → State → Prop} {Q : Option Value → Heap → List Loc → Prop} {k j : Nat}
/-- the run from here comes to its end, and there Post holds -/
def own_Ends (tb : Tables) (e : Env) (below : List Frame) (Post : Outcome → State → Prop) (A : State) : Prop := ∃ U o, Steps tb e below A U ∧ U.status = .running ∧ Ended U below o ∧ Post o U
theorem own_via {A : State} (B : State) (h : ∀ t, Steps tb e below B t → Steps tb e below A t) (k : own_Ends tb e below Post B) : own_Ends tb e below Post A := by
  obtain ⟨U, o, h1, h2⟩ := k; exact ⟨U, o, h _ h1, h2⟩
def own_Post (s : State) (Q : Option Value → Heap → List Loc → Prop) (k j : Nat) : Outcome → State → Prop := fun o U => ∃ v L, o = .returned v ∧ Q v U.heap L ∧ FrameEnd s o U L k j
/-- a method's contract: called with as at the heap h0 it returns, and Q holds of what it returned, of the heap and of the places written -/
def own_CT (l : Launch) (Z : State) (y : MethodName) (bytes : ByteArray) (maxL : Nat) (ret : Option FieldType) (rm : Room) (as : Array Value) (h0 : Heap) (Q : Option Value → Heap → List Loc → Prop) : Prop :=
  ∀ ws : List Jvm.Cond, MetFree l y (head1 (Jvm.Cond.code y bytes maxL ret :: ws) rm) (fun a U => a = as ∧ Z.Warmed39 U.vm ∧ U.heap = h0) (fun _ _ _ _ _ => True) (fun _ U o U' => ∃ v L, o = .returned v ∧ Q v U'.heap L ∧ FrameEnd U o U' L rm.cells rm.slots)
theorem own_of {y : MethodName} {bytes : ByteArray} {maxL : Nat} {ret : Option FieldType} {rm : Room} {as : Array Value} {Ls : Array Slot} (hx : plainFor y = true) (hef : ∀ m, entryFrame m as maxL = mkF m 0 Ls [])
    (body : ∀ p e s m below meth c T, Stand p l e rm s m as below meth c T [] 0 0 → p.tables.exec = Jvm.exec → c.code = bytes → c.maxLocals = maxL → s.vm.findClass y.cls = some m.cls → meth.name = y.name → meth.sig.returnType = ret → Z.Warmed39 s.vm → T.heap = h0 → meth.locks = false →
      own_Ends p.tables e below (own_Post s Q rm.cells rm.slots) (T.setTop (mkF m 0 Ls []))) : own_CT l Z y bytes maxL ret rm as h0 Q := by
  intro ws
  refine MetFree.of_bodySF hx hisR ?_
  intro p e s m args below meth c s₁ Bd hml0 hP hK
  obtain ⟨rfl, hZ, hh⟩ := hP
  have e0 : s₁.heap = h0 := by rw [← hh, Bd.state]; rfl
  obtain ⟨U, o, h1, h2, h3, h4⟩ := body p e s m below meth c s₁ (Stand.of_body Bd) Bd.exec Bd.bytes hml0 (findClass_of_methodNamed Bd.named) (name_of_methodNamed Bd.named Bd.method).1 Bd.returns hZ e0 Bd.notSynchronized
  exact ⟨U, o, castTop (hef m) h1, h2, h3, h4⟩
/-- the same for a body beneath which a stack trace is filled in: the tables' methods and the frames beneath are known -/
def own_CTK (l : Launch) (Z : State) (y : MethodName) (bytes : ByteArray) (maxL : Nat) (ret : Option FieldType) (rm : Room) (as : Array Value) (h0 : Heap) (Q : Option Value → Heap → List Loc → Prop) : Prop :=
  ∀ ws : List Jvm.Cond, MetFree l y (head1 (Jvm.Cond.code y bytes maxL ret :: ws) rm) (fun a U => a = as ∧ Z.Warmed39 U.vm ∧ U.heap = h0) (fun _ _ bl s _ => s.vm.MethodsKnown ∧ s.vm.FramesKnown bl) (fun _ U o U' => ∃ v L, o = .returned v ∧ Q v U'.heap L ∧ FrameEnd U o U' L rm.cells rm.slots)
theorem own_ofK {y : MethodName} {bytes : ByteArray} {maxL : Nat} {ret : Option FieldType} {rm : Room} {as : Array Value} {Ls : Array Slot} (hx : plainFor y = true) (hef : ∀ m, entryFrame m as maxL = mkF m 0 Ls [])
    (body : ∀ p e s m below meth c T, Stand p l e rm s m as below meth c T [] 0 0 → p.tables.exec = Jvm.exec → c.code = bytes → c.maxLocals = maxL → s.vm.findClass y.cls = some m.cls → meth.name = y.name → meth.sig.returnType = ret → Z.Warmed39 s.vm → T.heap = h0 → meth.locks = false → s.heap = h0 → s.vm.MethodsKnown → s.vm.FramesKnown below →
      own_Ends p.tables e below (own_Post s Q rm.cells rm.slots) (T.setTop (mkF m 0 Ls []))) : own_CTK l Z y bytes maxL ret rm as h0 Q := by
  intro ws
  refine MetFree.of_bodySF hx hisR ?_
  intro p e s m args below meth c s₁ Bd hml0 hP hK
  obtain ⟨rfl, hZ, hh⟩ := hP
  have e0 : s₁.heap = h0 := by rw [← hh, Bd.state]; rfl
  obtain ⟨U, o, h1, h2, h3, h4⟩ := body p e s m below meth c s₁ (Stand.of_body Bd) Bd.exec Bd.bytes hml0 (findClass_of_methodNamed Bd.named) (name_of_methodNamed Bd.named Bd.method).1 Bd.returns hZ e0 Bd.notSynchronized hh hK.1 hK.2
  exact ⟨U, o, castTop (hef m) h1, h2, h3, h4⟩
theorem own_retI (X : Stand p l e R s m args below meth c T locs cells slots) (hx : p.tables.exec = Jvm.exec) (hlk : meth.locks = false) {pc : Nat} {Ls : Array Slot} {z : Int32} {rest : List Value} (hret : meth.sig.returnType = some .int) (hd : decode c.code pc = .ok (.ireturn, 1))
    (eT : T.heap = h) (q : Q (some (.int z)) h locs) (hc : cells ≤ k) (hs : slots ≤ j) : own_Ends p.tables e below (own_Post s Q k j) (T.setTop (mkF m pc Ls (.int z :: rest))) := by
  obtain ⟨fs, hr, hrun, hended, hW, hsame⟩ := X.leave (v := some (.int z)) (fun h => by rw [hret] at h; cases h)
  subst eT
  exact ⟨_, _, retI X hx hret hd hr, hrun, hended, _, _, rfl, q, ⟨_, rfl⟩, hW, hsame.mono hc hs⟩
theorem own_retN (X : Stand p l e R s m args below meth c T locs cells slots) (hx : p.tables.exec = Jvm.exec) (hlk : meth.locks = false) {pc : Nat} {Ls : Array Slot} {z : Int32} {t : FieldType} {rest : List Value} (hret : meth.sig.returnType = some t) (ht : t = .boolean ∨ t = .byte ∨ t = .char ∨ t = .short) (hd : decode c.code pc = .ok (.ireturn, 1))
    (eT : T.heap = h) (q : Q (some (.int (nar t z))) h locs) (hc : cells ≤ k) (hs : slots ≤ j) : own_Ends p.tables e below (own_Post s Q k j) (T.setTop (mkF m pc Ls (.int z :: rest))) := by
  obtain ⟨fs, hr, hrun, hended, hW, hsame⟩ := X.leave (v := some (.int (nar t z))) (fun h => by rw [hret] at h; cases h)
  subst eT
  exact ⟨_, _, retN X hx hret ht hd hr, hrun, hended, _, _, rfl, q, ⟨_, rfl⟩, hW, hsame.mono hc hs⟩
theorem own_retA (X : Stand p l e R s m args below meth c T locs cells slots) (hx : p.tables.exec = Jvm.exec) (hlk : meth.locks = false) {pc : Nat} {Ls : Array Slot} {w : Value} {t : FieldType} {rest : List Value} (hret : meth.sig.returnType = some t) (ht : t.isReference = true) (hw : w.isRef = true) (hd : decode c.code pc = .ok (.areturn, 1))
    (eT : T.heap = h) (q : Q (some w) h locs) (hc : cells ≤ k) (hs : slots ≤ j) : own_Ends p.tables e below (own_Post s Q k j) (T.setTop (mkF m pc Ls (w :: rest))) := by
  obtain ⟨fs, hr, hrun, hended, hW, hsame⟩ := X.leave (v := some w) (fun h => by rw [hret] at h; cases h)
  subst eT
  have hn : narrow t w = w := by cases t <;> first | (cases ht; done) | (rcases ref_cases hw with rfl | ⟨_, rfl⟩ <;> rfl)
  exact ⟨_, _, retOut X hx hret hn (Or.inr (Or.inr (Or.inr (Or.inr ⟨rfl, ht, hw⟩)))) hd hr, hrun, hended, _, _, rfl, q, ⟨_, rfl⟩, hW, hsame.mono hc hs⟩
theorem own_retJ (X : Stand p l e R s m args below meth c T locs cells slots) (hx : p.tables.exec = Jvm.exec) (hlk : meth.locks = false) {pc : Nat} {Ls : Array Slot} {z : Int64} {rest : List Value} (hret : meth.sig.returnType = some .long) (hd : decode c.code pc = .ok (.lreturn, 1))
    (eT : T.heap = h) (q : Q (some (.long z)) h locs) (hc : cells ≤ k) (hs : slots ≤ j) : own_Ends p.tables e below (own_Post s Q k j) (T.setTop (mkF m pc Ls (.long z :: rest))) := by
  obtain ⟨fs, hr, hrun, hended, hW, hsame⟩ := X.leave (v := some (.long z)) (fun h => by rw [hret] at h; cases h)
  subst eT
  exact ⟨_, _, retOut X hx hret rfl (Or.inr (Or.inl ⟨rfl, rfl, _, rfl⟩)) hd hr, hrun, hended, _, _, rfl, q, ⟨_, rfl⟩, hW, hsame.mono hc hs⟩
theorem own_ret0 (X : Stand p l e R s m args below meth c T locs cells slots) (hx : p.tables.exec = Jvm.exec) (hlk : meth.locks = false) {pc : Nat} {Ls : Array Slot} (hret : meth.sig.returnType = none) (hd : decode c.code pc = .ok (.return_, 1))
    (eT : T.heap = h) (q : Q none h locs) (hc : cells ≤ k) (hs : slots ≤ j) : own_Ends p.tables e below (own_Post s Q k j) (T.setTop (mkF m pc Ls [])) := by
  obtain ⟨fs, hr, hrun, hended, hW, hsame⟩ := X.leave (v := none) (fun _ => rfl)
  subst eT
  exact ⟨_, _, X.returnOut hx hret hd hr, hrun, hended, _, _, rfl, q, ⟨_, rfl⟩, hW, hsame.mono hc hs⟩
theorem own_cat1 {v : Value} (h : v.isRef = true) : v.category = 1 := XT.cat1 h
theorem own_narR {v : Value} {t : FieldType} (ht : t.isReference = true) (h : v.isRef = true) : narrow t v = v := by cases t <;> first | (cases ht; done) | (rcases ref_cases h with rfl | ⟨_, rfl⟩ <;> rfl)
theorem own_fitR {v : Value} {t : FieldType} (ht : t.isReference = true) (h : v.isRef = true) : fits t v = true := by cases t <;> first | (cases ht; done) | (rcases ref_cases h with rfl | ⟨_, rfl⟩ <;> rfl)
theorem own_and255 (x : Int32) : ¬ nar .char ((x &&& (255 : Int32)).toUInt32.toUInt16.toUInt32.toInt32) < 0 ∧ ¬ (255 : Int32) < nar .char ((x &&& (255 : Int32)).toUInt32.toUInt16.toUInt32.toInt32) := by
  have t : ∀ k : Fin 256, ¬ nar .char ((Int32.ofNat k.val).toUInt32.toUInt16.toUInt32.toInt32) < 0 ∧ ¬ (255 : Int32) < nar .char ((Int32.ofNat k.val).toUInt32.toUInt16.toUInt32.toInt32) := by decide +kernel
  have h : (x &&& 255).toBitVec.toNat < 256 := by
    simp only [Int32.toBitVec_and, BitVec.toNat_and]
    exact Nat.lt_succ_of_le Nat.and_le_right
  have e : (x &&& 255) = Int32.ofNat (x &&& 255).toBitVec.toNat := by
    apply Int32.toBitVec_inj.mp
    show _ = BitVec.ofNat 32 _
    rw [BitVec.ofNat_toNat]; simp
  rw [e]
  exact t ⟨_, h⟩
/-- what pays a call: the shape of the library's backOf -/
abbrev own_BK (l : Launch) (R : Room) (p : Program) (e : Env) (below : List Frame) (s : State) (args : Array Value) (y : MethodName) (len W : Nat) (as : Array Value) (h : Heap) (k j : Nat) (Q : Option Value → Heap → List Loc → Prop) : Prop :=
  Back l R p e below s args y len W (fun A a => a = as ∧ A.U.heap = h ∧ A.cells + k ≤ R.cells ∧ A.slots + j ≤ R.slots) (fun A _ v B => ∃ L, Q v B.U.heap L ∧ B.locs = A.locs ++ L ∧ B.cells = A.cells + k ∧ B.slots = A.slots + j)
theorem own_bk {y : MethodName} {bytes : ByteArray} {maxL : Nat} {ret : Option FieldType} {rm : Room} {len W : Nat} {as : Array Value} (C : own_CT l Z y bytes maxL ret rm as h Q) (hZ : Z.Warmed39 s.vm) (wc : (Jvm.Cond.code y bytes maxL ret).before a0 Z = true) (wz : (Jvm.Cond.initialized y.cls).before a0 Z = true)
    (hf : rm.frames + 1 ≤ R.frames) (hl : W + (maxL + 11) + rm.locals ≤ R.locals) : own_BK l R p e below s args y len W as h rm.cells rm.slots Q := backOf (C []) hZ wc wz hf hl
theorem own_bkK {y : MethodName} {bytes : ByteArray} {maxL : Nat} {ret : Option FieldType} {rm : Room} {len W : Nat} {as : Array Value} (C : own_CTK l Z y bytes maxL ret rm as h Q) (hZ : Z.Warmed39 s.vm) (wc : (Jvm.Cond.code y bytes maxL ret).before a0 Z = true) (wz : (Jvm.Cond.initialized y.cls).before a0 Z = true)
    (hf : rm.frames + 1 ≤ R.frames) (hl : W + (maxL + 11) + rm.locals ≤ R.locals) (hTK : s.vm.MethodsKnown) (hBelow : s.vm.FramesKnown below) : own_BK l R p e below s args y len W as h rm.cells rm.slots Q := backOfKL (C []) hZ wc wz hf hl hTK hBelow
theorem own_cS (X : Stand p l e R s m args below meth c T locs cells slots) (hx : p.tables.exec = Jvm.exec) (hZ : Z.Warmed39 s.vm) {own : String} {index : Nat} {y : MethodName} {bytes : ByteArray} {maxL : Nat} {ret : Option FieldType} (hown : s.vm.findClass own = some m.cls)
    (w1 : (Jvm.Cond.methodLink own index y).before a0 Z = true) (w2 : (Jvm.Cond.static y).before a0 Z = true) (w3 : (Jvm.Cond.initialized y.cls).before a0 Z = true) (w4 : (Jvm.Cond.code y bytes maxL ret).before a0 Z = true) (hy : y.cls ≠ "java/lang/invoke/MethodHandle" ∧ y.cls ≠ "java/lang/invoke/VarHandle")
    {W : Nat} {as : Array Value} (K : own_BK l R p e below s args y 3 W as h k j Q) (eT : T.heap = h) {pc : Nat} {Ls : Array Slot} (hsize : Ls.size = c.maxLocals) {argsL rest st : List Value} (has : argsL.toArray = as) (hlen : ∀ sig, parseMethodDescriptor y.desc = some sig → argsL.length = sig.parameters.length) (hs : st = argsL.reverse ++ rest) (hW : (rest.map fun v => v.category).sum ≤ W)
    (hd : decode c.code pc = .ok (.invokestatic index, 3)) (hk : cells + k ≤ R.cells) (hj : slots + j ≤ R.slots) :
    ∃ (v : Option Value) (T' : State) (h' : Heap) (L : List Loc), Stand p l e R s m args below meth c T' (locs ++ L) (cells + k) (slots + j) ∧ T'.heap = h' ∧ Q v h' L ∧ ∀ t, Steps p.tables e below (T'.setTop (mkF m (pc + 3) Ls (v.toList ++ rest))) t → Steps p.tables e below (T.setTop (mkF m pc Ls st)) t := by
  subst hs
  obtain ⟨v, vm₁, ⟨T', L', k', n'⟩, -, X', ⟨L, hQ, hl, hy', hz⟩, stp⟩ := Jvm.LawKit.callS X hx hown (mvT hZ w1) (mvT hZ w2) (mvT hZ w3) (mvT hZ w4) hy K (g := mkF m pc Ls (argsL.reverse ++ rest)) rfl hsize (argsL := argsL) (rest := rest) hlen rfl (by show 2 * 0 + _ ≤ _; rw [Nat.mul_zero, Nat.zero_add]; exact hW) hd (fun _ _ => ⟨has, eT, hk, hj⟩)
  dsimp only [Pt.U, Pt.locs, Pt.cells, Pt.slots] at X' hQ hl hy' hz stp
  subst hl hy' hz
  exact ⟨v, T', _, L, X', rfl, hQ, stp⟩
theorem own_cI (X : Stand p l e R s m args below meth c T locs cells slots) (hx : p.tables.exec = Jvm.exec) (hZ : Z.Warmed39 s.vm) {own : String} {index : Nat} {y : MethodName} {bytes : ByteArray} {maxL : Nat} (hown : s.vm.findClass own = some m.cls)
    (w1 : (Jvm.Cond.methodLink own index y).before a0 Z = true) (w2 : (Jvm.Cond.instanceMethod y).before a0 Z = true) (w4 : (Jvm.Cond.code y bytes maxL none).before a0 Z = true) (hy1 : y.name = "<init>") (hy : y.cls ≠ "java/lang/invoke/MethodHandle" ∧ y.cls ≠ "java/lang/invoke/VarHandle")
    {W : Nat} {as : Array Value} (K : own_BK l R p e below s args y 3 W as h k j Q) (eT : T.heap = h) {pc : Nat} {Ls : Array Slot} (hsize : Ls.size = c.maxLocals) {a : Addr} {argsL rest st : List Value} (has : (Value.ref a :: argsL).toArray = as) (hlen : ∀ sig, parseMethodDescriptor y.desc = some sig → argsL.length = sig.parameters.length) (hs : st = argsL.reverse ++ .ref a :: rest) (hW : (rest.map fun v => v.category).sum ≤ W)
    (hd : decode c.code pc = .ok (.invokespecial index, 3)) (hk : cells + k ≤ R.cells) (hj : slots + j ≤ R.slots) :
    ∃ (v : Option Value) (T' : State) (h' : Heap) (L : List Loc), Stand p l e R s m args below meth c T' (locs ++ L) (cells + k) (slots + j) ∧ T'.heap = h' ∧ Q v h' L ∧ ∀ t, Steps p.tables e below (T'.setTop (mkF m (pc + 3) Ls (v.toList ++ rest))) t → Steps p.tables e below (T.setTop (mkF m pc Ls st)) t := by
  subst hs
  obtain ⟨v, vm₁, ⟨T', L', k', n'⟩, -, X', ⟨L, hQ, hl, hy', hz⟩, stp⟩ := X.specialBack hx hy1 hown (mvT hZ w1) (mvT hZ w2) (mvT hZ w4) hy K (g := mkF m pc Ls (argsL.reverse ++ .ref a :: rest)) rfl hsize (Steps.refl _) (a := a) (argsL := argsL) (rest := rest) hlen rfl (by show 2 * 0 + _ ≤ _; rw [Nat.mul_zero, Nat.zero_add]; exact hW) hd (fun _ _ => ⟨has, eT, hk, hj⟩)
  dsimp only [Pt.U, Pt.locs, Pt.cells, Pt.slots] at X' hQ hl hy' hz stp
  subst hl hy' hz
  exact ⟨v, T', _, L, X', rfl, hQ, fun t => stp.trans⟩
theorem own_cV (X : Stand p l e R s m args below meth c T locs cells slots) (hx : p.tables.exec = Jvm.exec) (hZ : Z.Warmed39 s.vm) {own C : String} {index : Nat} {y z : MethodName} (hown : s.vm.findClass own = some m.cls)
    (w1 : (Jvm.Cond.methodLink own index y).before a0 Z = true) (w2 : (Jvm.Cond.declares y).before a0 Z = true) (nf : NotFace s y) (w3 : (Jvm.Cond.selects C y z).before a0 Z = true) (w4 : (Jvm.Cond.instanceMethod z).before a0 Z = true) (hy : y.cls ≠ "java/lang/invoke/MethodHandle" ∧ y.cls ≠ "java/lang/invoke/VarHandle")
    {W : Nat} {as : Array Value} (K : own_BK l R p e below s args z 3 W as h k j Q) (eT : T.heap = h) {a : Addr} (E : Exa Z h a C) {pc : Nat} {Ls : Array Slot} (hsize : Ls.size = c.maxLocals) {argsL rest st : List Value} (has : (Value.ref a :: argsL).toArray = as) (hlen : ∀ sig, parseMethodDescriptor y.desc = some sig → argsL.length = sig.parameters.length) (hs : st = argsL.reverse ++ .ref a :: rest) (hW : (rest.map fun v => v.category).sum ≤ W)
    (hd : decode c.code pc = .ok (.invokevirtual index, 3)) (hk : cells + k ≤ R.cells) (hj : slots + j ≤ R.slots) :
    ∃ (v : Option Value) (T' : State) (h' : Heap) (L : List Loc), Stand p l e R s m args below meth c T' (locs ++ L) (cells + k) (slots + j) ∧ T'.heap = h' ∧ Q v h' L ∧ ∀ t, Steps p.tables e below (T'.setTop (mkF m (pc + 3) Ls (v.toList ++ rest))) t → Steps p.tables e below (T.setTop (mkF m pc Ls st)) t := by
  subst hs
  obtain ⟨cq, kq, qa, qb, qc⟩ := isOf hZ eT E
  obtain ⟨v, vm₁, ⟨T', L', k', n'⟩, -, X', ⟨L, hQ, hl, hy', hz⟩, stp⟩ := X.virtualBack hx (y := y) (z := z) hown (mvT hZ w1) (mvT hZ w2) nf (mvT hZ w3) (mvT hZ w4) hy K qa qc (g := mkF m pc Ls (argsL.reverse ++ .ref a :: rest)) rfl hsize (Steps.refl _) (argsL := argsL) (rest := rest) hlen rfl (by show 2 * 0 + _ ≤ _; rw [Nat.mul_zero, Nat.zero_add]; exact hW) hd (fun _ _ => ⟨has, eT, hk, hj⟩)
  dsimp only [Pt.U, Pt.locs, Pt.cells, Pt.slots] at X' hQ hl hy' hz stp
  subst hl hy' hz
  exact ⟨v, T', _, L, X', rfl, hQ, fun t => stp.trans⟩
theorem own_cF (X : Stand p l e R s m args below meth c T locs cells slots) (hx : p.tables.exec = Jvm.exec) (hZ : Z.Warmed39 s.vm) {own C : String} {index count : Nat} {xi y : MethodName} (hown : s.vm.findClass own = some m.cls)
    (w1 : (Jvm.Cond.methodLink own index xi).before a0 Z = true) (w2 : (Jvm.Cond.declares xi).before a0 Z = true) (w3 : (Jvm.Cond.interfaceMethod xi.cls xi.cls xi.name xi.desc).before a0 Z = true) (w4 : (Jvm.Cond.selects C xi y).before a0 Z = true) (w5 : (Jvm.Cond.instanceMethod y).before a0 Z = true) (w6 : (Jvm.Cond.publicMethod y).before a0 Z = true) (w7 : (Jvm.Cond.unhidden C xi.name xi.desc).before a0 Z = true) (w8 : (Jvm.Cond.castable C xi.cls).before a0 Z = true) (hy : xi.cls ≠ "java/lang/invoke/MethodHandle" ∧ xi.cls ≠ "java/lang/invoke/VarHandle")
    {W : Nat} {as : Array Value} (K : own_BK l R p e below s args y 5 W as h k j Q) (eT : T.heap = h) {a : Addr} (E : Exa Z h a C) {pc : Nat} {Ls : Array Slot} (hsize : Ls.size = c.maxLocals) {argsL rest st : List Value} (has : (Value.ref a :: argsL).toArray = as) (hlen : ∀ sig, parseMethodDescriptor xi.desc = some sig → argsL.length = sig.parameters.length) (hs : st = argsL.reverse ++ .ref a :: rest) (hW : (rest.map fun v => v.category).sum ≤ W)
    (hd : decode c.code pc = .ok (.invokeinterface index count, 5)) (hk : cells + k ≤ R.cells) (hj : slots + j ≤ R.slots) :
    ∃ (v : Option Value) (T' : State) (h' : Heap) (L : List Loc), Stand p l e R s m args below meth c T' (locs ++ L) (cells + k) (slots + j) ∧ T'.heap = h' ∧ Q v h' L ∧ ∀ t, Steps p.tables e below (T'.setTop (mkF m (pc + 5) Ls (v.toList ++ rest))) t → Steps p.tables e below (T.setTop (mkF m pc Ls st)) t := by
  subst hs
  obtain ⟨cq, kq, qa, qb, qc⟩ := isOf hZ eT E
  obtain ⟨v, vm₁, ⟨T', L', k', n'⟩, -, X', ⟨L, hQ, hl, hy', hz⟩, stp⟩ := X.interfaceBack hx (xi := xi) (y := y) hown (mvT hZ w1) (mvT hZ w2) (mvT hZ w3 (by simp [Cond.onTables, Cond.keepsFace, Cond.keeps, Cond.steady, Cond.faceAtom, hy.1, hy.2])) (mvT hZ w4) (mvT hZ w5) (mvT hZ w6) (mvT hZ w7) (mvT hZ w8) hy K qa qb qc (g := mkF m pc Ls (argsL.reverse ++ .ref a :: rest)) rfl hsize (Steps.refl _) (argsL := argsL) (rest := rest) hlen rfl (by show 2 * 0 + _ ≤ _; rw [Nat.mul_zero, Nat.zero_add]; exact hW) hd (fun _ _ => ⟨has, eT, hk, hj⟩)
  dsimp only [Pt.U, Pt.locs, Pt.cells, Pt.slots] at X' hQ hl hy' hz stp
  subst hl hy' hz
  exact ⟨v, T', _, L, X', rfl, hQ, fun t => stp.trans⟩
end OwnWalk
end Jvm.Pilot.@@N@@
namespace Jvm.Pilot.@@N@@
open Jvm Jvm.ClassFile Sem Op Lib Jvm.Free Jvm.Stand Jvm.LawKit Jvm.RoadKit Bundle Jvm.Pilot.@@N@@.Jvm.D
section OwnHeld
variable {p : Program} {l : Launch} {e : Env} {R : Room} {s : State} {m : MethodId} {args : Array Value} {below : List Frame} {meth : Method} {c : Code} {T : State} {locs : List Loc} {cells slots : Nat} {Z : State} {a0 : Array Value} {h h0 : Heap}
variable {vm0 : Vm} {EL : List (String × Nat)} {Q : Option Value → Heap → List Loc → Prop} {k j n : Nat}
def own_PostH (Z : State) (EL : List (String × Nat)) (s : State) (h0 : Heap) (Q : Option Value → Heap → List Loc → Prop) (k j : Nat) : Outcome → State → Prop := fun o U => ∃ v L, o = .returned v ∧ Q v U.heap L ∧ CHr Z EL s.vm h0 U.vm U.heap ∧ ReturnedEndW s o U L k j
/-- the contract of a body that may load the String constants of EL -/
def own_CTH (l : Launch) (Z : State) (EL : List (String × Nat)) (y : MethodName) (bytes : ByteArray) (maxL : Nat) (ret : Option FieldType) (rm : Room) (as : Array Value) (h0 : Heap) (Q : Option Value → Heap → List Loc → Prop) : Prop :=
  ∀ ws : List Jvm.Cond, MetFree l y (head1 (Jvm.Cond.code y bytes maxL ret :: ws) rm) (fun a U => a = as ∧ Z.Warmed39 U.vm ∧ U.heap = h0 ∧ CHv Z EL U.vm h0) (fun _ _ _ _ _ => True) (fun _ U o U' => ∃ v L, o = .returned v ∧ Q v U'.heap L ∧ CHr Z EL U.vm U.heap U'.vm U'.heap ∧ ReturnedEndW U o U' L rm.cells rm.slots)
theorem own_ofH {y : MethodName} {bytes : ByteArray} {maxL : Nat} {ret : Option FieldType} {rm : Room} {as : Array Value} {Ls : Array Slot} (hx : plainFor y = true) (hef : ∀ m, entryFrame m as maxL = mkF m 0 Ls [])
    (body : ∀ p e s m below meth c T, Stand p l e rm (s.setVm s.vm) m as below meth c T [] 0 0 → p.tables.exec = Jvm.exec → c.code = bytes → c.maxLocals = maxL → s.vm.findClass y.cls = some m.cls → meth.name = y.name → meth.sig.returnType = ret → Z.Warmed39 s.vm → T.heap = h0 → s.heap = h0 → meth.locks = false → s.Since s.vm h0.size → CHv Z EL s.vm h0 →
      own_Ends p.tables e below (own_PostH Z EL s h0 Q rm.cells rm.slots) (T.setTop (mkF m 0 Ls []))) : own_CTH l Z EL y bytes maxL ret rm as h0 Q := by
  intro ws
  refine MetFree.of_bodySF hx hisR ?_
  intro p e s m args below meth c s₁ Bd hml0 hP hK
  obtain ⟨rfl, hZ, hh, hC⟩ := hP
  have e0 : s₁.heap = h0 := by rw [← hh, Bd.state]; rfl
  obtain ⟨U, o, h1, h2, h3, h4⟩ := body p e s m below meth c s₁ (Stand.of_body Bd) Bd.exec Bd.bytes hml0 (findClass_of_methodNamed Bd.named) (name_of_methodNamed Bd.named Bd.method).1 Bd.returns hZ e0 hh Bd.notSynchronized ((State.WarmedH.refl s).since _) hC
  rw [← hh] at h4
  exact ⟨U, o, castTop (hef m) h1, h2, h3, h4⟩
theorem own_leaveH (X : Stand p l e R (s.setVm vm0) m args below meth c T locs cells slots) (hlk : meth.locks = false) (hZ : Z.Warmed39 vm0) (hEL : EW Z a0 EL) (hS : s.Since vm0 n) (hn : n ≤ h.size) (eT : T.heap = h) (C : CHr Z EL s.vm h0 vm0 h) {v : Option Value} (hv : meth.sig.returnType = none → v = none) (q : Q v h locs) (hc : cells ≤ k) (hs : slots ≤ j) {A : State}
    (st : ∀ fs, (∀ (f : JFrame) (acts : List Action), f.method = m → f.locked = none → f.entered = [] → (doReturn e (T.setTop f) acts v).1 = T.setFrames fs) → Steps p.tables e below A (T.setFrames fs)) : own_Ends p.tables e below (own_PostH Z EL s h0 Q k j) A := by
  subst eT
  obtain ⟨fs, hr, hrun, hended, h1, h2, h3, h4⟩ := X.leaveW hS hn (v := v) hv hlk
  exact ⟨_, _, st fs hr, hrun, hended, _, _, rfl, q, C.trans (show CHr Z EL vm0 T.heap T.vm T.heap from CHv.at X hZ hEL C.1), h1, h2, h3, h4.mono hc hs⟩
theorem own_retAH (X : Stand p l e R s m args below meth c T locs cells slots) (hx : p.tables.exec = Jvm.exec) {pc : Nat} {Ls : Array Slot} {w : Value} {t : FieldType} {rest : List Value} (hret : meth.sig.returnType = some t) (ht : t.isReference = true) (hw : w.isRef = true) (hd : decode c.code pc = .ok (.areturn, 1)) {fs : List Frame}
    (hr : ∀ (f : JFrame) (acts : List Action), f.method = m → f.locked = none → f.entered = [] → (doReturn e (T.setTop f) acts (some w)).1 = T.setFrames fs) : Steps p.tables e below (T.setTop (mkF m pc Ls (w :: rest))) (T.setFrames fs) :=
  retOut X hx hret (own_narR ht hw) (Or.inr (Or.inr (Or.inr (Or.inr ⟨rfl, ht, hw⟩)))) hd hr
abbrev own_BKH (l : Launch) (Z : State) (EL : List (String × Nat)) (R : Room) (p : Program) (e : Env) (below : List Frame) (s : State) (vm0 : Vm) (args : Array Value) (y : MethodName) (len W : Nat) (as : Array Value) (h : Heap) (k j : Nat) (Q : Option Value → Heap → List Loc → Prop) : Prop :=
  BackS l R p e below (s.setVm vm0) args y len W (fun A a => a = as ∧ A.U.heap = h ∧ A.cells + k ≤ R.cells ∧ A.slots + j ≤ R.slots) (fun A _ v B => ∃ L, Q v B.U.heap L ∧ B.locs = A.locs ++ L ∧ B.cells = A.cells + k ∧ B.slots = A.slots + j ∧ CHr Z EL vm0 h B.U.vm B.U.heap)
theorem own_bkH {y : MethodName} {bytes : ByteArray} {maxL : Nat} {ret : Option FieldType} {rm : Room} {len W : Nat} {as : Array Value} (C : own_CTH l Z EL y bytes maxL ret rm as h Q) (hZ : Z.Warmed39 vm0) (wc : (Jvm.Cond.code y bytes maxL ret).before a0 Z = true) (wz : (Jvm.Cond.initialized y.cls).before a0 Z = true)
    (hf : rm.frames + 1 ≤ R.frames) (hl : W + (maxL + 11) + rm.locals ≤ R.locals) (hEL : EW Z a0 EL) (H : CHv Z EL vm0 h) : own_BKH l Z EL R p e below s vm0 args y len W as h rm.cells rm.slots Q := backOfSH (C []) hZ wc wz hf hl hEL H
theorem own_cSH (X : Stand p l e R (s.setVm vm0) m args below meth c T locs cells slots) (hx : p.tables.exec = Jvm.exec) (hZ : Z.Warmed39 vm0) {own : String} {index : Nat} {y : MethodName} {bytes : ByteArray} {maxL : Nat} {ret : Option FieldType} (hown : vm0.findClass own = some m.cls)
    (w1 : (Jvm.Cond.methodLink own index y).before a0 Z = true) (w2 : (Jvm.Cond.static y).before a0 Z = true) (w3 : (Jvm.Cond.initialized y.cls).before a0 Z = true) (w4 : (Jvm.Cond.code y bytes maxL ret).before a0 Z = true) (hy : y.cls ≠ "java/lang/invoke/MethodHandle" ∧ y.cls ≠ "java/lang/invoke/VarHandle")
    {W : Nat} {as : Array Value} (K : own_BKH l Z EL R p e below s vm0 args y 3 W as h k j Q) (eT : T.heap = h) (hS : s.Since vm0 n) (hn : n ≤ h.size) {pc : Nat} {Ls : Array Slot} (hsize : Ls.size = c.maxLocals) {argsL rest st : List Value} (has : argsL.toArray = as) (hlen : ∀ sig, parseMethodDescriptor y.desc = some sig → argsL.length = sig.parameters.length) (hs : st = argsL.reverse ++ rest) (hW : (rest.map fun v => v.category).sum ≤ W)
    (hd : decode c.code pc = .ok (.invokestatic index, 3)) (hk : cells + k ≤ R.cells) (hj : slots + j ≤ R.slots) :
    ∃ (v : Option Value) (T' : State) (h' : Heap) (L : List Loc), Stand p l e R (s.setVm T'.vm) m args below meth c T' (locs ++ L) (cells + k) (slots + j) ∧ T'.heap = h' ∧ Q v h' L ∧ s.Since T'.vm h'.size ∧ Z.Warmed39 T'.vm ∧ T'.vm.findClass own = some m.cls ∧ CHr Z EL vm0 h T'.vm h' ∧ ∀ t, Steps p.tables e below (T'.setTop (mkF m (pc + 3) Ls (v.toList ++ rest))) t → Steps p.tables e below (T.setTop (mkF m pc Ls st)) t := by
  subst hs
  obtain ⟨v, vm₁, ⟨T', L', k', n'⟩, -, X', hS', hg', ⟨L, hQ, hl, hy', hz, hC⟩, stp⟩ := callSS X hx hown (mvT (s := s.setVm vm0) hZ w1) (mvT (s := s.setVm vm0) hZ w2) (mvT (s := s.setVm vm0) hZ w3) (mvT (s := s.setVm vm0) hZ w4) hy K (g := mkF m pc Ls (argsL.reverse ++ rest)) rfl hsize (argsL := argsL) (rest := rest) hlen rfl (by show 2 * 0 + _ ≤ _; rw [Nat.mul_zero, Nat.zero_add]; exact hW) hd (fun _ _ => ⟨has, eT, hk, hj⟩)
  dsimp only [Pt.U, Pt.locs, Pt.cells, Pt.slots] at X' hS' hg' hQ hl hy' hz hC stp
  subst hl hy' hz eT
  exact ⟨v, T', _, L, X', rfl, hQ, hS.trans hS' (Nat.le_trans hn hg'), State.Warmed39.trans (t := s.setVm vm0) hZ hS'.1, (hS'.1.alike.findClass _ _).trans hown, hC, fun t => stp.trans⟩
theorem own_cIH (X : Stand p l e R (s.setVm vm0) m args below meth c T locs cells slots) (hx : p.tables.exec = Jvm.exec) (hZ : Z.Warmed39 vm0) {own : String} {index : Nat} {y : MethodName} {bytes : ByteArray} {maxL : Nat} (hown : vm0.findClass own = some m.cls)
    (w1 : (Jvm.Cond.methodLink own index y).before a0 Z = true) (w2 : (Jvm.Cond.instanceMethod y).before a0 Z = true) (w4 : (Jvm.Cond.code y bytes maxL none).before a0 Z = true) (hy1 : y.name = "<init>") (hy : y.cls ≠ "java/lang/invoke/MethodHandle" ∧ y.cls ≠ "java/lang/invoke/VarHandle")
    {W : Nat} {as : Array Value} (K : own_BKH l Z EL R p e below s vm0 args y 3 W as h k j Q) (eT : T.heap = h) (hS : s.Since vm0 n) (hn : n ≤ h.size) {pc : Nat} {Ls : Array Slot} (hsize : Ls.size = c.maxLocals) {a : Addr} {argsL rest st : List Value} (has : (Value.ref a :: argsL).toArray = as) (hlen : ∀ sig, parseMethodDescriptor y.desc = some sig → argsL.length = sig.parameters.length) (hs : st = argsL.reverse ++ .ref a :: rest) (hW : (rest.map fun v => v.category).sum ≤ W)
    (hd : decode c.code pc = .ok (.invokespecial index, 3)) (hk : cells + k ≤ R.cells) (hj : slots + j ≤ R.slots) :
    ∃ (v : Option Value) (T' : State) (h' : Heap) (L : List Loc), Stand p l e R (s.setVm T'.vm) m args below meth c T' (locs ++ L) (cells + k) (slots + j) ∧ T'.heap = h' ∧ Q v h' L ∧ s.Since T'.vm h'.size ∧ Z.Warmed39 T'.vm ∧ T'.vm.findClass own = some m.cls ∧ CHr Z EL vm0 h T'.vm h' ∧ ∀ t, Steps p.tables e below (T'.setTop (mkF m (pc + 3) Ls (v.toList ++ rest))) t → Steps p.tables e below (T.setTop (mkF m pc Ls st)) t := by
  subst hs
  obtain ⟨v, vm₁, ⟨T', L', k', n'⟩, -, X', hS', hg', ⟨L, hQ, hl, hy', hz, hC⟩, stp⟩ := X.specialBackS hx hy1 hown (mvT (s := s.setVm vm0) hZ w1) (mvT (s := s.setVm vm0) hZ w2) (mvT (s := s.setVm vm0) hZ w4) hy K (g := mkF m pc Ls (argsL.reverse ++ .ref a :: rest)) rfl hsize (Steps.refl _) (a := a) (argsL := argsL) (rest := rest) hlen rfl (by show 2 * 0 + _ ≤ _; rw [Nat.mul_zero, Nat.zero_add]; exact hW) hd (fun _ _ => ⟨has, eT, hk, hj⟩)
  dsimp only [Pt.U, Pt.locs, Pt.cells, Pt.slots] at X' hS' hg' hQ hl hy' hz hC stp
  subst hl hy' hz eT
  exact ⟨v, T', _, L, X', rfl, hQ, hS.trans hS' (Nat.le_trans hn hg'), State.Warmed39.trans (t := s.setVm vm0) hZ hS'.1, (hS'.1.alike.findClass _ _).trans hown, hC, fun t => stp.trans⟩
theorem own_cVH (X : Stand p l e R (s.setVm vm0) m args below meth c T locs cells slots) (hx : p.tables.exec = Jvm.exec) (hZ : Z.Warmed39 vm0) {own C : String} {index : Nat} {y z : MethodName} (hown : vm0.findClass own = some m.cls)
    (w1 : (Jvm.Cond.methodLink own index y).before a0 Z = true) (w2 : (Jvm.Cond.declares y).before a0 Z = true) (nf : NotFace (s.setVm vm0) y) (w3 : (Jvm.Cond.selects C y z).before a0 Z = true) (w4 : (Jvm.Cond.instanceMethod z).before a0 Z = true) (hy : y.cls ≠ "java/lang/invoke/MethodHandle" ∧ y.cls ≠ "java/lang/invoke/VarHandle")
    {W : Nat} {as : Array Value} (K : own_BKH l Z EL R p e below s vm0 args z 3 W as h k j Q) (eT : T.heap = h) (hS : s.Since vm0 n) (hn : n ≤ h.size) {a : Addr} (E : Exa Z h a C) {pc : Nat} {Ls : Array Slot} (hsize : Ls.size = c.maxLocals) {argsL rest st : List Value} (has : (Value.ref a :: argsL).toArray = as) (hlen : ∀ sig, parseMethodDescriptor y.desc = some sig → argsL.length = sig.parameters.length) (hs : st = argsL.reverse ++ .ref a :: rest) (hW : (rest.map fun v => v.category).sum ≤ W)
    (hd : decode c.code pc = .ok (.invokevirtual index, 3)) (hk : cells + k ≤ R.cells) (hj : slots + j ≤ R.slots) :
    ∃ (v : Option Value) (T' : State) (h' : Heap) (L : List Loc), Stand p l e R (s.setVm T'.vm) m args below meth c T' (locs ++ L) (cells + k) (slots + j) ∧ T'.heap = h' ∧ Q v h' L ∧ s.Since T'.vm h'.size ∧ Z.Warmed39 T'.vm ∧ T'.vm.findClass own = some m.cls ∧ CHr Z EL vm0 h T'.vm h' ∧ ∀ t, Steps p.tables e below (T'.setTop (mkF m (pc + 3) Ls (v.toList ++ rest))) t → Steps p.tables e below (T.setTop (mkF m pc Ls st)) t := by
  subst hs
  obtain ⟨cq, kq, qa, qb, qc⟩ := isOf (s := s.setVm vm0) hZ eT E
  obtain ⟨v, vm₁, ⟨T', L', k', n'⟩, -, X', hS', hg', ⟨L, hQ, hl, hy', hz, hC⟩, stp⟩ := X.virtualBackS hx (y := y) (z := z) hown (mvT (s := s.setVm vm0) hZ w1) (mvT (s := s.setVm vm0) hZ w2) nf (mvT (s := s.setVm vm0) hZ w3) (mvT (s := s.setVm vm0) hZ w4) hy K qa qc (g := mkF m pc Ls (argsL.reverse ++ .ref a :: rest)) rfl hsize (Steps.refl _) (argsL := argsL) (rest := rest) hlen rfl (by show 2 * 0 + _ ≤ _; rw [Nat.mul_zero, Nat.zero_add]; exact hW) hd (fun _ _ => ⟨has, eT, hk, hj⟩)
  dsimp only [Pt.U, Pt.locs, Pt.cells, Pt.slots] at X' hS' hg' hQ hl hy' hz hC stp
  subst hl hy' hz eT
  exact ⟨v, T', _, L, X', rfl, hQ, hS.trans hS' (Nat.le_trans hn hg'), State.Warmed39.trans (t := s.setVm vm0) hZ hS'.1, (hS'.1.alike.findClass _ _).trans hown, hC, fun t => stp.trans⟩
end OwnHeld
end Jvm.Pilot.@@N@@
namespace Jvm.Pilot.@@N@@
open Jvm Jvm.ClassFile Sem Op Lib Jvm.Free Jvm.Stand Jvm.LawKit Jvm.RoadKit Bundle Jvm.Pilot.@@N@@.Jvm.D
theorem own_toInt {k : Nat} (h : k < 2147483648) : (Int32.ofNat k).toInt = k := by
  rw [Int32.toInt_ofNat']; simp only [Int.bmod, show Int32.size = 4294967296 from rfl]; omega
theorem own_clamp {k : Nat} (h : k < 2147483648) : (Int32.ofNat k).toNatClampNeg = k := by
  simp only [Int32.toNatClampNeg, own_toInt h]; rfl
theorem own_nneg {k : Nat} (h : k < 2147483648) : ¬ Int32.ofNat k < 0 := by
  rw [Int32.lt_iff_toInt_lt, own_toInt h]; show ¬ (k : Int) < 0; omega
theorem own_olt {i n : Nat} (h : i < n) (hn : n < 2147483648) : Int32.ofNat i < Int32.ofNat n := by
  rw [Int32.lt_iff_toInt_lt, own_toInt hn, own_toInt (by omega)]; omega
theorem own_onlt {i n : Nat} (h : n ≤ i) (hi : i < 2147483648) : ¬ Int32.ofNat i < Int32.ofNat n := by
  rw [Int32.lt_iff_toInt_lt, own_toInt hi, own_toInt (by omega)]; omega
theorem own_oinj {i n : Nat} (hi : i < 2147483648) (hn : n < 2147483648) (h : Int32.ofNat i = Int32.ofNat n) : i = n := by
  have := congrArg Int32.toInt h; rw [own_toInt hi, own_toInt hn] at this; omega
theorem own_osub {i n : Nat} (h : i ≤ n) : Int32.ofNat n - Int32.ofNat i = Int32.ofNat (n - i) := (Int32.ofNat_sub n i h).symm
theorem own_oadd (i n : Nat) : Int32.ofNat i + Int32.ofNat n = Int32.ofNat (i + n) := (Int32.ofNat_add i n).symm
theorem own_osub1 (k : Nat) : Int32.ofNat (k + 1) - 1 = Int32.ofNat k := own_osub (i := 1) (n := k + 1) (by omega)
theorem own_mm {a b : Int32} (h : a = b) : (if b < a then b else a) = b := by subst h; simp
/-- the bytes of a text of chars below 256, as an array's values -/
abbrev own_BS (cs : List Int32) : List Value := (cs.map fun c => c.toInt8.toInt32).map Value.int
theorem own_BS_len (cs : List Int32) : (own_BS cs).length = cs.length := by simp
theorem own_BS_at (cs : List Int32) (k : Nat) (h : k < cs.length) (d : Value) : (own_BS cs).getD k d = Value.int (cs.getD k 0).toInt8.toInt32 := by
  simp [List.getD_eq_getElem?_getD, h]
theorem own_slice (cs : List Int32) (i m : Nat) (h : i + m ≤ cs.length) (d : Value) : ((List.range m).map fun x => (own_BS cs).getD (i + x) d) = own_BS ((cs.drop i).take m) := by
  apply List.ext_getElem
  · simp; omega
  · intro x h1 h2
    simp only [List.length_map, List.length_range] at h1
    simp [List.getD_eq_getElem?_getD, show i + x < cs.length by omega]
theorem own_lo8 {c : Int32} (h : ¬ c < 0 ∧ ¬ (255 : Int32) < c) : ∃ k : Nat, k < 256 ∧ c = Int32.ofNat k := by
  obtain ⟨h1, h2⟩ := h
  rw [Int32.lt_iff_toInt_lt] at h1 h2
  have e0 : (0 : Int32).toInt = 0 := rfl
  have e1 : (255 : Int32).toInt = 255 := rfl
  refine ⟨c.toInt.toNat, by omega, ?_⟩
  apply Int32.toInt_inj.mp
  rw [own_toInt (by omega)]; omega
theorem own_byte_inj {c d : Int32} (hc : ¬ c < 0 ∧ ¬ (255 : Int32) < c) (hd : ¬ d < 0 ∧ ¬ (255 : Int32) < d) (h : c.toInt8.toInt32 = d.toInt8.toInt32) : c = d := by
  obtain ⟨i, hi, rfl⟩ := own_lo8 hc
  obtain ⟨j, hj, rfl⟩ := own_lo8 hd
  have t : ∀ x y : Fin 256, (Int32.ofNat x.val).toInt8 = (Int32.ofNat y.val).toInt8 → x = y := by decide +kernel
  have e : (Int32.ofNat i).toInt8 = (Int32.ofNat j).toInt8 := by
    have := congrArg Int32.toInt8 h; simpa using this
  have := t ⟨i, hi⟩ ⟨j, hj⟩ e
  rw [Fin.mk.injEq] at this; rw [this]
theorem own_narc {c : Int32} (h : ¬ c < 0 ∧ ¬ (255 : Int32) < c) : nar .char c = c := by
  obtain ⟨i, hi, rfl⟩ := own_lo8 h
  exact (by decide +kernel : ∀ x : Fin 256, nar .char (Int32.ofNat x.val) = Int32.ofNat x.val) ⟨i, hi⟩
theorem own_hpk {cs : List Int32} (hp : ∀ c ∈ cs, ¬ c < 0 ∧ ¬ (255 : Int32) < c) {k : Nat} (h : k < cs.length) : ¬ cs.getD k 0 < 0 ∧ ¬ (255 : Int32) < cs.getD k 0 := by
  have e : cs.getD k 0 = cs[k] := by simp [List.getD_eq_getElem?_getD, h]
  rw [e]; exact hp _ (List.getElem_mem h)
theorem own_addm1 (x : Int32) : x + (-1 : Int32) = x - 1 := (Int32.sub_eq_add_neg x 1).symm
theorem own_osub' (i m : Nat) : Int32.ofNat (i + m) - Int32.ofNat i = Int32.ofNat m := by
  rw [own_osub (Nat.le_add_right i m), Nat.add_sub_cancel_left]
theorem own_minsub {i m n : Nat} (h : i + m ≤ n) (hn : n < 2147483648) : (if Int32.ofNat m < Int32.ofNat n - Int32.ofNat i then Int32.ofNat m else Int32.ofNat n - Int32.ofNat i) = Int32.ofNat m := by
  rw [own_osub (by omega)]
  split
  · rfl
  · rename_i q
    have : ¬ m < n - i := fun z => q (own_olt z (by omega))
    rw [show n - i = m by omega]
theorem own_z0 : (0 : Int32).toNatClampNeg = 0 := rfl
theorem own_cpres {us : List Value} {m : Nat} {d : Value} (hm : m < 2147483648) : (List.replicate m d).take ((0 : Int32).toNatClampNeg) ++ us ++ (List.replicate m d).drop ((0 : Int32).toNatClampNeg + (Int32.ofNat m).toNatClampNeg) = us := by
  rw [own_clamp hm, own_z0]; simp
theorem own_tlen {cs : List Int32} {i m : Nat} (h : i + m ≤ cs.length) : ((cs.drop i).take m).length = m := by simp; omega
theorem own_hpt {cs : List Int32} (hp : ∀ c ∈ cs, ¬ c < 0 ∧ ¬ (255 : Int32) < c) (i m : Nat) : ∀ c ∈ (cs.drop i).take m, ¬ c < 0 ∧ ¬ (255 : Int32) < c := fun c hc => hp c (List.mem_of_mem_drop (List.mem_of_mem_take hc))
theorem own_and3 (x : Int32) : x &&& 3 = 0 ∨ x &&& 3 = 1 ∨ x &&& 3 = 2 ∨ x &&& 3 = 3 := by
  have h : (x &&& 3).toBitVec.toNat < 4 := by
    simp only [Int32.toBitVec_and, BitVec.toNat_and]
    exact Nat.lt_succ_of_le Nat.and_le_right
  have e : (x &&& 3) = Int32.ofNat (x &&& 3).toBitVec.toNat := by
    apply Int32.toBitVec_inj.mp
    show _ = BitVec.ofNat 32 _
    rw [BitVec.ofNat_toNat]; simp
  rw [e]
  exact (by decide +kernel : ∀ k : Fin 4, Int32.ofNat k.val = 0 ∨ Int32.ofNat k.val = 1 ∨ Int32.ofNat k.val = 2 ∨ Int32.ofNat k.val = 3) ⟨_, h⟩
end Jvm.Pilot.@@N@@
/- laws to paste: Road.backV, Road.lenW, Road.chN, Road.codOf (cut by pick.py; bodies as the Statement names them) -/
namespace Jvm.Pilot.@@N@@
namespace StrChars
open Jvm Sem ClassFile Op Lib Jvm.Stand Jvm.Free.XT Jvm.Free.ALB Jvm.Free.JM Jvm.Free
open Jvm.Lib.Cold (StaticIs)
/-- a char array whose places are chars -/
def Ch (a : Addr) (A : Cell) (U : State) : Prop := Arr .char a A U ∧ Typed .char A
theorem Ch.mv {a : Addr} {A : Cell} {U U' : State} (h : Ch a A U) (hal : U.vm.Alike U'.vm) (hh : U'.heap = U.heap) : Ch a A U' := ⟨h.1.mv hal hh, h.2⟩
theorem Ch.keep {a : Addr} {A : Cell} {U U' : State} (h : Ch a A U) (hal : U.vm.Alike U'.vm) (hk : U'.heap[a]? = some A) : Ch a A U' := ⟨h.1.keep hal hk, h.2⟩
/-- what place i of a char[]'s cell holds -/
def cv (A : Cell) (i : Nat) : Int32 := match A.slots[i]? with | some (.int x) => x | _ => 0
theorem Ch.get {a : Addr} {A : Cell} {U : State} (h : Ch a A U) {i : Nat} (hi : i < A.slots.size) : A.slots[i]? = some (.int (cv A i)) := by
  have e := Array.getElem?_eq_getElem hi
  have f := h.2 i _ e
  unfold cv; rw [e]
  generalize A.slots[i] = v at f
  cases v <;> simp [fits] at f ⊢
/-- the byte that i2b leaves of a char -/
def lo8 (x : Int32) : Int32 := x.toInt8.toInt32
theorem fits_lo8 (y : Int32) : fits .byte (.int (lo8 y)) = true := by
  have h1 := y.toInt8.le_toInt
  have h2 := y.toInt8.toInt_lt
  simp only [lo8, fits, Bool.and_eq_true, decide_eq_true_eq, Int32.le_iff_toInt_le, Int8.toInt_toInt32, show (-128 : Int32).toInt = -128 from by decide, show (127 : Int32).toInt = 127 from by decide]
  omega
/-- A' is A but that each place j of lo .. hi - 1 holds f j -/
def Laid (A A' : Cell) (lo hi : Nat) (f : Nat → Value) : Prop := A'.cls = A.cls ∧ A'.vm = A.vm ∧ A'.slots.size = A.slots.size ∧ ∀ i, A'.slots[i]? = if lo ≤ i ∧ i < hi then some (f i) else A.slots[i]?
theorem Laid.zero (A : Cell) (lo : Nat) (f : Nat → Value) : Laid A A lo (lo + 0) f := ⟨rfl, rfl, rfl, fun i => by rw [if_neg (by omega)]⟩
theorem Laid.step {A Ak : Cell} {lo k : Nat} {f : Nat → Value} {v : Value} (h : Laid A Ak lo k f) (hlo : lo ≤ k) (hk : k < Ak.slots.size) (hv : v = f k) : Laid A (Ak.setSlot k v) lo (k + 1) f := by
  refine ⟨h.1, h.2.1, by simpa [Cell.setSlot] using h.2.2.1, fun i => ?_⟩
  by_cases e : k = i
  · subst e; rw [Cell.slots_setSlot_self v hk, if_pos (by omega), hv]
  · rw [Cell.slots_setSlot_ne v e, h.2.2.2 i]
    by_cases q : lo ≤ i ∧ i < k
    · rw [if_pos q, if_pos (by omega)]
    · rw [if_neg q, if_neg (by omega)]
def U16 : String := "java/lang/StringUTF16"
namespace Cmp5
def yN : MethodName := ⟨"java/lang/StringUTF16", "compress", "([CI[BII)I"⟩
abbrev yB : ByteArray := jdk_52_method_21_code
theorem d0 : decode yB 0 = .ok (.iconst 0, 1) := by decide +kernel
theorem d1 : decode yB 1 = .ok (.istore 5, 2) := by decide +kernel
theorem d3 : decode yB 3 = .ok (.iload 5, 2) := by decide +kernel
theorem d5 : decode yB 5 = .ok (.iload 4, 2) := by decide +kernel
theorem d7 : decode yB 7 = .ok (.if_icmp (.ge) 37, 3) := by decide +kernel
theorem d10 : decode yB 10 = .ok (.aload_n 0, 1) := by decide +kernel
theorem d11 : decode yB 11 = .ok (.iload_n 1, 1) := by decide +kernel
theorem d12 : decode yB 12 = .ok (.caload, 1) := by decide +kernel
theorem d13 : decode yB 13 = .ok (.istore 6, 2) := by decide +kernel
theorem d15 : decode yB 15 = .ok (.iload 6, 2) := by decide +kernel
theorem d17 : decode yB 17 = .ok (.sipush 255, 3) := by decide +kernel
theorem d20 : decode yB 20 = .ok (.if_icmp (.le) 6, 3) := by decide +kernel
theorem d26 : decode yB 26 = .ok (.aload_n 2, 1) := by decide +kernel
theorem d27 : decode yB 27 = .ok (.iload_n 3, 1) := by decide +kernel
theorem d28 : decode yB 28 = .ok (.iload 6, 2) := by decide +kernel
theorem d30 : decode yB 30 = .ok (.i2b, 1) := by decide +kernel
theorem d31 : decode yB 31 = .ok (.bastore, 1) := by decide +kernel
theorem d32 : decode yB 32 = .ok (.iinc 1 1, 3) := by decide +kernel
theorem d35 : decode yB 35 = .ok (.iinc 3 1, 3) := by decide +kernel
theorem d38 : decode yB 38 = .ok (.iinc 5 1, 3) := by decide +kernel
theorem d41 : decode yB 41 = .ok (.goto (-38), 3) := by decide +kernel
theorem d44 : decode yB 44 = .ok (.iload 4, 2) := by decide +kernel
theorem d46 : decode yB 46 = .ok (.ireturn, 1) := by decide +kernel
def site : List Cond := []
def tab : Cond := tabOf yN yB 7 (some .int) site
def P (b : Addr) (A : Cell) (d : Addr) (B : Cell) (o q len : Nat) (args : Array Value) (s : State) : Prop := args = #[.ref b, .int (Int32.ofNat o), .ref d, .int (Int32.ofNat q), .int (Int32.ofNat len)] ∧ Ch b A s ∧ Arr .byte d B s ∧ b ≠ d ∧ o + len ≤ A.slots.size ∧ q + len ≤ B.slots.size ∧ ∀ i, i < len → ¬ 255 < cv A (o + i)
def E (b : Addr) (A : Cell) (d : Addr) (B : Cell) (o q len : Nat) (r : Option Value) (s u : State) : Prop := r = some (.int (Int32.ofNat len)) ∧ ∃ B', Put d B' s u ∧ Laid B B' q (q + len) (fun j => Value.int (lo8 (cv A (o + (j - q)))))
/-- no char of the range above 255: len; the places written hold each char's low byte -/
theorem law (l : Launch) (b : Addr) (A : Cell) (d : Addr) (B : Cell) (o q len : Nat) : Law l yN 5 5 0 0 yB 7 (some .int) site (P b A d B o q len) (E b A d B o q len) (copyLocs d q len) 0 0 := by
  refine Law.of_walk (plainFor_of_name (by decide +kernel)) (by decide +kernel) (by decide +kernel) (by decide) (fun _ _ h => by rw [h.1]; rfl) (fun _ U U' hal hh h => ⟨h.1, h.2.1.mv hal hh, h.2.2.1.mv hal hh, h.2.2.2⟩) (fun r U U' V V' h1 hal h2 h => ⟨h.1, h.2.elim fun B' q => ⟨B', q.1.mv h1 h2, q.2⟩⟩) ?_
  intro p e s m args below meth c s₁ X0 hexec hbytes hml hret hlk hnm hown hh0 W hP
  obtain ⟨rfl, hA, hB, hne, l1, l2, hp⟩ := hP
  have c1 : Steps p.tables e below (s₁.setTop (entryFrame m #[.ref b, .int (Int32.ofNat o), .ref d, .int (Int32.ofNat q), .int (Int32.ofNat len)] 7)) (s₁.setTop (mkF m 0 #[.val (.ref b), .val (.int (Int32.ofNat o)), .val (.ref d), .val (.int (Int32.ofNat q)), .val (.int (Int32.ofNat len)), .unset, .unset] [])) := entry rfl
  have hA0 := hA.1.mv X0.warmed.alike hh0
  have hB0 := hB.mv X0.warmed.alike hh0
  have a31 := hA.1.2.2.2
  have c2 : Steps p.tables e below (s₁.setTop (entryFrame m #[.ref b, .int (Int32.ofNat o), .ref d, .int (Int32.ofNat q), .int (Int32.ofNat len)] 7)) (s₁.setTop (mkF m 3 #[.val (.ref b), .val (.int (Int32.ofNat o)), .val (.ref d), .val (.int (Int32.ofNat q)), .val (.int (Int32.ofNat len)), .val (.int 0), .unset] [])) := c1.trans (by
    refine iconstV X0.here hexec rfl 0 (hb hbytes d0) (by decide) ?_
    refine XS.istore X0.here hexec rfl (hb hbytes d1) rfl rfl ?_
    exact Steps.refl _)
  have loop : ∀ (r i : Nat), i + r = len → ∀ (z : Slot), (z = .unset ∨ ∃ w, z = .val w ∧ w.category = 1) → ∀ (Tl : State) (Bk : Cell), Stand p l e { frames := 0, locals := 0, cells := 0, slots := 0 } s m #[.ref b, .int (Int32.ofNat o), .ref d, .int (Int32.ofNat q), .int (Int32.ofNat len)] below meth c Tl ([] ++ copyLocs d q i) 0 0 → Put d Bk s₁ Tl → Laid B Bk q (q + i) (fun j => Value.int (lo8 (cv A (o + (j - q))))) →
      Steps p.tables e below (s₁.setTop (entryFrame m #[.ref b, .int (Int32.ofNat o), .ref d, .int (Int32.ofNat q), .int (Int32.ofNat len)] 7)) (Tl.setTop (mkF m 3 #[.val (.ref b), .val (.int (Int32.ofNat (o + i))), .val (.ref d), .val (.int (Int32.ofNat (q + i))), .val (.int (Int32.ofNat len)), .val (.int (Int32.ofNat i)), z] [])) → ∃ (T' : State) (B' : Cell) (z' : Slot), Stand p l e { frames := 0, locals := 0, cells := 0, slots := 0 } s m #[.ref b, .int (Int32.ofNat o), .ref d, .int (Int32.ofNat q), .int (Int32.ofNat len)] below meth c T' ([] ++ copyLocs d q len) 0 0 ∧ Put d B' s₁ T' ∧ Laid B B' q (q + len) (fun j => Value.int (lo8 (cv A (o + (j - q))))) ∧
      Steps p.tables e below (s₁.setTop (entryFrame m #[.ref b, .int (Int32.ofNat o), .ref d, .int (Int32.ofNat q), .int (Int32.ofNat len)] 7)) (T'.setTop (mkF m 3 #[.val (.ref b), .val (.int (Int32.ofNat (o + len))), .val (.ref d), .val (.int (Int32.ofNat (q + len))), .val (.int (Int32.ofNat len)), .val (.int (Int32.ofNat len)), z'] [])) := by
    intro r
    induction r with
    | zero =>
      intro i hi z hz Tl Bk Xl pl fl cl
      have hil : i = len := by omega
      rw [hil] at Xl fl cl
      exact ⟨Tl, Bk, z, Xl, pl, fl, cl⟩
    | succ r ih =>
      intro i hi z hz Tl Bk Xl pl fl cl
      have all := X0.warmed.alike.symm.trans Xl.warmed.alike
      have hAl := hA0.keep all (pl.other hne hA0.1)
      have hBk := hB0.like all pl.1 fl.1 fl.2.1 fl.2.2.1
      have hlt : q + i < Bk.slots.size := by rw [fl.2.2.1]; omega
      have c3 : Steps p.tables e below (s₁.setTop (entryFrame m #[.ref b, .int (Int32.ofNat o), .ref d, .int (Int32.ofNat q), .int (Int32.ofNat len)] 7)) (Tl.setTop (mkF m 12 #[.val (.ref b), .val (.int (Int32.ofNat (o + i))), .val (.ref d), .val (.int (Int32.ofNat (q + i))), .val (.int (Int32.ofNat len)), .val (.int (Int32.ofNat i)), z] [.int (Int32.ofNat (o + i)), .ref b])) := cl.trans (by
        refine XS.iload Xl.here hexec rfl (hb hbytes d3) rfl ?_
        refine XS.iload Xl.here hexec rfl (hb hbytes d5) rfl ?_
        refine XS.icmpNo Xl.here hexec rfl (hb hbytes d7) rfl (ii_ge_f (lt32 (by omega) (by omega))) ?_
        refine XS.aloadN Xl.here hexec rfl (hb hbytes d10) rfl rfl ?_
        refine XS.iloadN Xl.here hexec rfl (hb hbytes d11) rfl ?_
        exact Steps.refl _)
      have c4 : Steps p.tables e below (s₁.setTop (entryFrame m #[.ref b, .int (Int32.ofNat o), .ref d, .int (Int32.ofNat q), .int (Int32.ofNat len)] 7)) (Tl.setTop (mkF m 13 #[.val (.ref b), .val (.int (Int32.ofNat (o + i))), .val (.ref d), .val (.int (Int32.ofNat (q + i))), .val (.int (Int32.ofNat len)), .val (.int (Int32.ofNat i)), z] [.int (cv A (o + i))])) := c3.trans (by
        refine Xl.aget hexec hAl rfl (hA.get (i := o + i) (by omega)) rfl rfl (hb hbytes d12) ?_
        exact Steps.refl _)
      have c5 : Steps p.tables e below (s₁.setTop (entryFrame m #[.ref b, .int (Int32.ofNat o), .ref d, .int (Int32.ofNat q), .int (Int32.ofNat len)] 7)) (Tl.setTop (mkF m 15 #[.val (.ref b), .val (.int (Int32.ofNat (o + i))), .val (.ref d), .val (.int (Int32.ofNat (q + i))), .val (.int (Int32.ofNat len)), .val (.int (Int32.ofNat i)), .val (.int (cv A (o + i)))] [])) := c4.trans (by
        refine XS.istoreS Xl.here hexec rfl (hb hbytes d13) rfl rfl hz ?_
        exact Steps.refl _)
      have c6 : Steps p.tables e below (s₁.setTop (entryFrame m #[.ref b, .int (Int32.ofNat o), .ref d, .int (Int32.ofNat q), .int (Int32.ofNat len)] 7)) (Tl.setTop (mkF m 31 #[.val (.ref b), .val (.int (Int32.ofNat (o + i))), .val (.ref d), .val (.int (Int32.ofNat (q + i))), .val (.int (Int32.ofNat len)), .val (.int (Int32.ofNat i)), .val (.int (cv A (o + i)))] [.int (lo8 (cv A (o + i))), .int (Int32.ofNat (q + i)), .ref d])) := c5.trans (by
        refine XS.iload Xl.here hexec rfl (hb hbytes d15) rfl ?_
        refine sipushV Xl.here hexec rfl 255 (hb hbytes d17) (by decide) ?_
        refine XS.icmpYes Xl.here hexec rfl (pc0 := 20) rfl (hb hbytes d20) rfl (ii_le_t (hp i (by omega))) (by decide) rfl ?_
        refine XS.aloadN Xl.here hexec rfl (hb hbytes d26) rfl rfl ?_
        refine XS.iloadN Xl.here hexec rfl (hb hbytes d27) rfl ?_
        refine XS.iload Xl.here hexec rfl (hb hbytes d28) rfl ?_
        refine i2b Xl.here hexec rfl (hb hbytes d30) rfl ?_
        exact Steps.refl _)
      obtain ⟨T7, X7, p7, st7⟩ := Xl.aput hexec hBk rfl hlt rfl (fits_lo8 (cv A (o + i))) (g := (mkF m 31 #[.val (.ref b), .val (.int (Int32.ofNat (o + i))), .val (.ref d), .val (.int (Int32.ofNat (q + i))), .val (.int (Int32.ofNat len)), .val (.int (Int32.ofNat i)), .val (.int (cv A (o + i)))] [.int (lo8 (cv A (o + i))), .int (Int32.ofNat (q + i)), .ref d])) rfl (rest := []) rfl (hb hbytes d31)
      have c8 : Steps p.tables e below (s₁.setTop (entryFrame m #[.ref b, .int (Int32.ofNat o), .ref d, .int (Int32.ofNat q), .int (Int32.ofNat len)] 7)) (T7.setTop (mkF m 32 #[.val (.ref b), .val (.int (Int32.ofNat (o + i))), .val (.ref d), .val (.int (Int32.ofNat (q + i))), .val (.int (Int32.ofNat len)), .val (.int (Int32.ofNat i)), .val (.int (cv A (o + i)))] [])) := c6.trans (st7 _ (Steps.refl _))
      have c9 : Steps p.tables e below (s₁.setTop (entryFrame m #[.ref b, .int (Int32.ofNat o), .ref d, .int (Int32.ofNat q), .int (Int32.ofNat len)] 7)) (T7.setTop (mkF m 3 #[.val (.ref b), .val (.int (Int32.ofNat (o + i) + 1)), .val (.ref d), .val (.int (Int32.ofNat (q + i) + 1)), .val (.int (Int32.ofNat len)), .val (.int (Int32.ofNat i + 1)), .val (.int (cv A (o + i)))] [])) := c8.trans (by
        refine iincV X7.here hexec rfl 1 (hb hbytes d32) (by decide) rfl rfl ?_
        refine iincV X7.here hexec rfl 1 (hb hbytes d35) (by decide) rfl rfl ?_
        refine iincV X7.here hexec rfl 1 (hb hbytes d38) (by decide) rfl rfl ?_
        refine XS.goto X7.here hexec rfl (pc0 := 41) rfl (hb hbytes d41) (by decide) rfl ?_
        exact Steps.refl _)
      have c10 : Steps p.tables e below (s₁.setTop (entryFrame m #[.ref b, .int (Int32.ofNat o), .ref d, .int (Int32.ofNat q), .int (Int32.ofNat len)] 7)) (T7.setTop (mkF m 3 #[.val (.ref b), .val (.int (Int32.ofNat (o + (i + 1)))), .val (.ref d), .val (.int (Int32.ofNat (q + (i + 1)))), .val (.int (Int32.ofNat len)), .val (.int (Int32.ofNat (i + 1))), .val (.int (cv A (o + i)))] [])) := by
        have := c9
        rw [succ32, succ32, succ32] at this
        exact this
      exact ih (i + 1) (by omega) _ (Or.inr ⟨_, rfl, rfl⟩) T7 _ (by rw [copyLocs_step, ← List.append_assoc]; exact X7) (pl.trans p7) (fl.step (by omega) hlt (by simp)) c10
  obtain ⟨T9, B9, z9, X9, p9, f9, g9⟩ := loop len 0 (by omega) .unset (Or.inl rfl) s₁ B (by simpa [copyLocs] using X0) ⟨hB0.1, fun _ _ => rfl, rfl⟩ (Laid.zero _ _ _) c2
  have c11 : Steps p.tables e below (s₁.setTop (entryFrame m #[.ref b, .int (Int32.ofNat o), .ref d, .int (Int32.ofNat q), .int (Int32.ofNat len)] 7)) (T9.setTop (mkF m 46 #[.val (.ref b), .val (.int (Int32.ofNat (o + len))), .val (.ref d), .val (.int (Int32.ofNat (q + len))), .val (.int (Int32.ofNat len)), .val (.int (Int32.ofNat len)), z9] [.int (Int32.ofNat len)])) := g9.trans (by
    refine XS.iload X9.here hexec rfl (hb hbytes d3) rfl ?_
    refine XS.iload X9.here hexec rfl (hb hbytes d5) rfl ?_
    refine XS.icmpYes X9.here hexec rfl (pc0 := 7) rfl (hb hbytes d7) rfl (ii_ge_t (nlt32 (by omega) (Nat.le_refl _))) (by decide) rfl ?_
    refine XS.iload X9.here hexec rfl (hb hbytes d44) rfl ?_
    exact Steps.refl _)
  exact ⟨T9, some (.int (Int32.ofNat len)), _, _, _, X9, by simp, rfl, rfl, (fun h => by cases h), ⟨rfl, B9, p9.from hh0, f9⟩, fun fs hl => c11.trans (X9.ireturnOut hexec hret rfl (Or.inl rfl) (hb hbytes d46) hl)⟩
end Cmp5
namespace Cmp3
def yN : MethodName := ⟨"java/lang/StringUTF16", "compress", "([CII)[B"⟩
abbrev yB : ByteArray := jdk_52_method_16_code
theorem d0 : decode yB 0 = .ok (.iload_n 2, 1) := by decide +kernel
theorem d1 : decode yB 1 = .ok (.newarray .byte, 2) := by decide +kernel
theorem d3 : decode yB 3 = .ok (.astore_n 3, 1) := by decide +kernel
theorem d4 : decode yB 4 = .ok (.aload_n 0, 1) := by decide +kernel
theorem d5 : decode yB 5 = .ok (.iload_n 1, 1) := by decide +kernel
theorem d6 : decode yB 6 = .ok (.aload_n 3, 1) := by decide +kernel
theorem d7 : decode yB 7 = .ok (.iconst 0, 1) := by decide +kernel
theorem d8 : decode yB 8 = .ok (.iload_n 2, 1) := by decide +kernel
theorem d9 : decode yB 9 = .ok (.invokestatic 115, 3) := by decide +kernel
theorem d12 : decode yB 12 = .ok (.istore 4, 2) := by decide +kernel
theorem d14 : decode yB 14 = .ok (.iload 4, 2) := by decide +kernel
theorem d16 : decode yB 16 = .ok (.iload_n 2, 1) := by decide +kernel
theorem d17 : decode yB 17 = .ok (.if_icmp (.eq) 40, 3) := by decide +kernel
theorem d57 : decode yB 57 = .ok (.aload_n 3, 1) := by decide +kernel
theorem d58 : decode yB 58 = .ok (.areturn, 1) := by decide +kernel
def site : List Cond := [.arrayClass .byte, Cmp5.tab] ++ staticW U16 115 Cmp5.yN
def tab : Cond := tabOf yN yB 6 (some (.array .byte)) site
def P (b : Addr) (A : Cell) (o len : Nat) (args : Array Value) (s : State) : Prop := args = #[.ref b, .int (Int32.ofNat o), .int (Int32.ofNat len)] ∧ Ch b A s ∧ o + len ≤ A.slots.size ∧ len ≤ 536870912 ∧ ∀ i, i < len → ¬ 255 < cv A (o + i)
def E (b : Addr) (A : Cell) (o len : Nat) (r : Option Value) (s u : State) : Prop := NewArr .byte "[B" len (fun j => .int (lo8 (cv A (o + j)))) r s u ∧ u.heap.size = s.heap.size + 1
/-- no char of the range above 255: a new byte[] of their low bytes -/
theorem law (l : Launch) (b : Addr) (A : Cell) (o len : Nat) : Law l yN 3 3 1 18 yB 6 (some (.array .byte)) site (P b A o len) (E b A o len) [] 1 len := by
  refine Law.of_walk (plainFor_of_name (by decide +kernel)) (by decide +kernel) (by decide +kernel) (by decide) (fun _ _ h => by rw [h.1]; rfl) (fun _ U U' hal hh h => ⟨h.1, h.2.1.mv hal hh, h.2.2⟩) (fun r U U' V V' h1 hal h2 h => ⟨NewArr.mv r U U' V V' h1 hal h2 h.1, by rw [h1, h2]; exact h.2⟩) ?_
  intro p e s m args below meth c s₁ X0 hexec hbytes hml hret hlk hnm hown hh0 W hP
  obtain ⟨rfl, hA, l1, l2, hp⟩ := hP
  have a31 := hA.1.2.2.2
  have c1 : Steps p.tables e below (s₁.setTop (entryFrame m #[.ref b, .int (Int32.ofNat o), .int (Int32.ofNat len)] 6)) (s₁.setTop (mkF m 0 #[.val (.ref b), .val (.int (Int32.ofNat o)), .val (.int (Int32.ofNat len)), .unset, .unset, .unset] [])) := entry rfl
  have c2 : Steps p.tables e below (s₁.setTop (entryFrame m #[.ref b, .int (Int32.ofNat o), .int (Int32.ofNat len)] 6)) (s₁.setTop (mkF m 1 #[.val (.ref b), .val (.int (Int32.ofNat o)), .val (.int (Int32.ofNat len)), .unset, .unset, .unset] [.int (Int32.ofNat len)])) := c1.trans (by
    refine XS.iloadN X0.here hexec rfl (hb hbytes d0) rfl ?_
    exact Steps.refl _)
  obtain ⟨T3, B3, X3, ba3, bs3, bv3, bh3, bf3, st3⟩ := X0.anew hexec (atype := .byte) (wk W (.arrayClass .byte)) rfl (by show len * 1 ≤ _; omega) (by omega) (g := (mkF m 1 #[.val (.ref b), .val (.int (Int32.ofNat o)), .val (.int (Int32.ofNat len)), .unset, .unset, .unset] [.int (Int32.ofNat len)])) rfl (hb hbytes d1) (rest := []) rfl (Nat.le_refl _) (by show 0 + len ≤ len; omega)
  rw [hh0] at ba3 st3
  have kp3 : XT.Kept s T3 := (XT.Kept.of_eq hh0).push bh3
  have hA3 := hA.keep X3.warmed.alike (kp3 _ _ hA.1.1)
  have hne : b ≠ s.heap.size := hA.1.ne
  have c4 : Steps p.tables e below (s₁.setTop (entryFrame m #[.ref b, .int (Int32.ofNat o), .int (Int32.ofNat len)] 6)) (T3.setTop (mkF m 3 #[.val (.ref b), .val (.int (Int32.ofNat o)), .val (.int (Int32.ofNat len)), .unset, .unset, .unset] [.ref s.heap.size])) := c2.trans (st3 _ (Steps.refl _))
  have c5 : Steps p.tables e below (s₁.setTop (entryFrame m #[.ref b, .int (Int32.ofNat o), .int (Int32.ofNat len)] 6)) (T3.setTop (mkF m 9 #[.val (.ref b), .val (.int (Int32.ofNat o)), .val (.int (Int32.ofNat len)), .val (.ref s.heap.size), .unset, .unset] [.int (Int32.ofNat len), .int 0, .ref s.heap.size, .int (Int32.ofNat o), .ref b])) := c4.trans (by
    refine XS.astoreN X3.here hexec rfl (hb hbytes d3) rfl rfl rfl ?_
    refine XS.aloadN X3.here hexec rfl (hb hbytes d4) rfl rfl ?_
    refine XS.iloadN X3.here hexec rfl (hb hbytes d5) rfl ?_
    refine XS.aloadN X3.here hexec rfl (hb hbytes d6) rfl rfl ?_
    refine iconstV X3.here hexec rfl 0 (hb hbytes d7) (by decide) ?_
    refine XS.iloadN X3.here hexec rfl (hb hbytes d8) rfl ?_
    exact Steps.refl _)
  obtain ⟨v6, T6, X6, E6, g6⟩ := X3.callS hexec (Cmp5.law l b A s.heap.size B3 o 0 len) hown (wks W (staticW U16 115 Cmp5.yN)) (wk W Cmp5.tab) (W := 0) (Nat.le_of_ble_eq_true rfl) (Nat.le_of_ble_eq_true rfl) (Nat.le_refl _) (by show 0 + len + 0 ≤ len; omega) (g := (mkF m 9 #[.val (.ref b), .val (.int (Int32.ofNat o)), .val (.int (Int32.ofNat len)), .val (.ref s.heap.size), .unset, .unset] [.int (Int32.ofNat len), .int (Int32.ofNat 0), .ref s.heap.size, .int (Int32.ofNat o), .ref b])) rfl (by rw [hml]; rfl) c5 (argsL := [.ref b, .int (Int32.ofNat o), .ref s.heap.size, .int (Int32.ofNat 0), .int (Int32.ofNat len)]) (rest := []) rfl rfl (by show 2 * 0 + 0 ≤ _; decide) (hb hbytes d9) (⟨rfl, hA3, ba3, hne, l1, by rw [bs3]; simp, hp⟩)
  obtain ⟨rfl, B6, p6, f6⟩ := E6
  have c7 : Steps p.tables e below (s₁.setTop (entryFrame m #[.ref b, .int (Int32.ofNat o), .int (Int32.ofNat len)] 6)) (T6.setTop (mkF m 12 #[.val (.ref b), .val (.int (Int32.ofNat o)), .val (.int (Int32.ofNat len)), .val (.ref s.heap.size), .unset, .unset] [.int (Int32.ofNat len)])) := g6
  have c8 : Steps p.tables e below (s₁.setTop (entryFrame m #[.ref b, .int (Int32.ofNat o), .int (Int32.ofNat len)] 6)) (T6.setTop (mkF m 58 #[.val (.ref b), .val (.int (Int32.ofNat o)), .val (.int (Int32.ofNat len)), .val (.ref s.heap.size), .val (.int (Int32.ofNat len)), .unset] [.ref s.heap.size])) := c7.trans (by
    refine XS.istore X6.here hexec rfl (hb hbytes d12) rfl rfl ?_
    refine XS.iload X6.here hexec rfl (hb hbytes d14) rfl ?_
    refine XS.iloadN X6.here hexec rfl (hb hbytes d16) rfl ?_
    refine XS.icmpYes X6.here hexec rfl (pc0 := 17) rfl (hb hbytes d17) rfl (ii_eq_t rfl) (by decide) rfl ?_
    refine XS.aloadN X6.here hexec rfl (hb hbytes d57) rfl rfl ?_
    exact Steps.refl _)
  have X8 := X6.wide (L' := []) (cells' := 1) (slots' := len) (fun x hx hlt => by
    simp only [List.nil_append, copyLocs, List.mem_map, List.mem_range] at hx
    obtain ⟨i, -, rfl⟩ := hx
    exact absurd hlt (Nat.lt_irrefl _)) (Nat.le_refl _) (by omega)
  exact ⟨T6, some (.ref s.heap.size), _, _, _, X8, rfl, rfl, rfl, (fun h => by cases h), ⟨⟨rfl, B6, ba3.like (X3.warmed.alike.symm.trans X6.warmed.alike) p6.1 f6.1 f6.2.1 f6.2.2.1, f6.2.1.trans bv3, by rw [X6.warmed.alike.findClass, f6.1]; exact bf3, by rw [f6.2.2.1, bs3]; simp, fun j hj => by rw [f6.2.2.2 j, if_pos (by omega)]; rfl, kp3.put p6 (Nat.le_refl _)⟩, by rw [p6.2.2, bh3, hh0]; simp⟩, fun fs hl => c8.trans (X8.areturnOut hexec rfl hret rfl (hb hbytes d58) hl)⟩
end Cmp3
namespace CodL
def yN : MethodName := ⟨"java/lang/StringUTF16", "coderFromArrayLen", "([BI)B"⟩
abbrev yB : ByteArray := jdk_52_method_15_code
theorem d0 : decode yB 0 = .ok (.iload_n 1, 1) := by decide +kernel
theorem d1 : decode yB 1 = .ok (.aload_n 0, 1) := by decide +kernel
theorem d2 : decode yB 2 = .ok (.arraylength, 1) := by decide +kernel
theorem d3 : decode yB 3 = .ok (.isub, 1) := by decide +kernel
theorem d4 : decode yB 4 = .ok (.bipush 31, 2) := by decide +kernel
theorem d6 : decode yB 6 = .ok (.iushr, 1) := by decide +kernel
theorem d7 : decode yB 7 = .ok (.i2b, 1) := by decide +kernel
theorem d8 : decode yB 8 = .ok (.ireturn, 1) := by decide +kernel
def site : List Cond := []
def tab : Cond := tabOf yN yB 2 (some .byte) site
def P (d : Addr) (B : Cell) (args : Array Value) (s : State) : Prop := args = #[.ref d, .int (Int32.ofNat B.slots.size)] ∧ Arr .byte d B s
def E (r : Option Value) (s u : State) : Prop := XT.PureE (some (.int 0)) r s u
/-- an array as long as the number of chars: LATIN1 -/
theorem law (l : Launch) (d : Addr) (B : Cell) : Law l yN 2 2 0 0 yB 2 (some .byte) site (P d B) E [] 0 0 := by
  refine Law.of_walk (plainFor_of_name (by decide +kernel)) (by decide +kernel) (by decide +kernel) (by decide) (fun _ _ h => by rw [h.1]; rfl) (fun _ U U' hal hh h => ⟨h.1, h.2.mv hal hh⟩) (fun r U U' V V' h1 hal h2 h => XT.PureE.mv r U U' V V' h1 hal h2 h) ?_
  intro p e s m args below meth c s₁ X0 hexec hbytes hml hret hlk hnm hown hh0 W hP
  obtain ⟨rfl, hB⟩ := hP
  have hB0 := hB.mv X0.warmed.alike hh0
  have c1 : Steps p.tables e below (s₁.setTop (entryFrame m #[.ref d, .int (Int32.ofNat B.slots.size)] 2)) (s₁.setTop (mkF m 0 #[.val (.ref d), .val (.int (Int32.ofNat B.slots.size))] [])) := entry rfl
  have c2 : Steps p.tables e below (s₁.setTop (entryFrame m #[.ref d, .int (Int32.ofNat B.slots.size)] 2)) (s₁.setTop (mkF m 2 #[.val (.ref d), .val (.int (Int32.ofNat B.slots.size))] [.ref d, .int (Int32.ofNat B.slots.size)])) := c1.trans (by
    refine XS.iloadN X0.here hexec rfl (hb hbytes d0) rfl ?_
    refine XS.aloadN X0.here hexec rfl (hb hbytes d1) rfl rfl ?_
    exact Steps.refl _)
  have c3 : Steps p.tables e below (s₁.setTop (entryFrame m #[.ref d, .int (Int32.ofNat B.slots.size)] 2)) (s₁.setTop (mkF m 8 #[.val (.ref d), .val (.int (Int32.ofNat B.slots.size))] [.int (lo8 (ushr (Int32.ofNat B.slots.size - Int32.ofNat B.slots.size) 31))])) := c2.trans (by
    refine X0.alen hexec hB0 rfl rfl (hb hbytes d2) ?_
    refine XS.isub X0.here hexec rfl (hb hbytes d3) rfl ?_
    refine bipushV X0.here hexec rfl 31 (hb hbytes d4) (by decide) ?_
    refine iushr X0.here hexec rfl (hb hbytes d6) rfl ?_
    refine i2b X0.here hexec rfl (hb hbytes d7) rfl ?_
    exact Steps.refl _)
  have e0 : lo8 (ushr (Int32.ofNat B.slots.size - Int32.ofNat B.slots.size) 31) = 0 := by rw [Int32.sub_self]; decide
  rw [e0] at c3
  exact ⟨s₁, some (.int 0), _, _, _, X0, rfl, rfl, rfl, (fun h => by cases h), ⟨rfl, hh0⟩, fun fs hl => c3.trans (X0.ireturnOut hexec hret rfl (Or.inr (Or.inr (Or.inl rfl))) (hb hbytes d8) hl)⟩
end CodL
/-- the String at a is Latin-1 over a new byte[] (the heap's one new cell): the low bytes of the len chars of A from o on; every cell but a is kept -/
def Got (a : Addr) (D : Cell) (fV fC : Field) (A : Cell) (o len : Nat) (r : Option Value) (s u : State) : Prop := r = none ∧ ∃ D' V : Cell, Blank "java/lang/String" a D' u ∧ Same D D' [fV.slot, fC.slot] ∧ D'.slots[fV.slot]? = some (.ref s.heap.size) ∧ D'.slots[fC.slot]? = some (.int 0) ∧ Arr .byte s.heap.size V u ∧ V.vm = .none ∧ u.vm.findClass "[B" = some V.cls ∧ V.slots.size = len ∧ (∀ j, j < len → V.slots[j]? = some (.int (lo8 (cv A (o + j))))) ∧ (∀ (y : Addr) (c : Cell), y ≠ a → s.heap[y]? = some c → u.heap[y]? = some c) ∧ u.heap.size = s.heap.size + 1
theorem Got.mv {a : Addr} {D A : Cell} {fV fC : Field} {o len : Nat} : ∀ r (U U' V V' : State), U'.heap = U.heap → V.vm.Alike V'.vm → V'.heap = V.heap → Got a D fV fC A o len r U V → Got a D fV fC A o len r U' V' :=
  fun r U U' V V' h1 hal h2 ⟨e0, D', X, a1, a2, a3, a4, a5, a6, a7, a8, a9, a10, a11⟩ => ⟨e0, D', X, a1.mv hal h2, a2, by rw [h1]; exact a3, a4, by rw [h1]; exact a5.mv hal h2, a6, by rw [hal.findClass]; exact a7, a8, a9, by rw [h1, h2]; exact a10, by rw [h1, h2]; exact a11⟩
namespace New4
def yN : MethodName := ⟨"java/lang/String", "<init>", "([CIILjava/lang/Void;)V"⟩
abbrev yB : ByteArray := jdk_42_method_149_code
theorem d0 : decode yB 0 = .ok (.aload_n 0, 1) := by decide +kernel
theorem d1 : decode yB 1 = .ok (.invokespecial 1, 3) := by decide +kernel
theorem d4 : decode yB 4 = .ok (.iload_n 3, 1) := by decide +kernel
theorem d5 : decode yB 5 = .ok (.ifCond (.ne) 22, 3) := by decide +kernel
theorem d27 : decode yB 27 = .ok (.getstatic 38, 3) := by decide +kernel
theorem d30 : decode yB 30 = .ok (.ifCond (.eq) 28, 3) := by decide +kernel
theorem d33 : decode yB 33 = .ok (.aload_n 1, 1) := by decide +kernel
theorem d34 : decode yB 34 = .ok (.iload_n 2, 1) := by decide +kernel
theorem d35 : decode yB 35 = .ok (.iload_n 3, 1) := by decide +kernel
theorem d36 : decode yB 36 = .ok (.invokestatic 177, 3) := by decide +kernel
theorem d39 : decode yB 39 = .ok (.astore 5, 2) := by decide +kernel
theorem d41 : decode yB 41 = .ok (.aload_n 0, 1) := by decide +kernel
theorem d42 : decode yB 42 = .ok (.aload 5, 2) := by decide +kernel
theorem d44 : decode yB 44 = .ok (.iload_n 3, 1) := by decide +kernel
theorem d45 : decode yB 45 = .ok (.invokestatic 47, 3) := by decide +kernel
theorem d48 : decode yB 48 = .ok (.putfield 15, 3) := by decide +kernel
theorem d51 : decode yB 51 = .ok (.aload_n 0, 1) := by decide +kernel
theorem d52 : decode yB 52 = .ok (.aload 5, 2) := by decide +kernel
theorem d54 : decode yB 54 = .ok (.putfield 9, 3) := by decide +kernel
theorem d57 : decode yB 57 = .ok (.return_, 1) := by decide +kernel
def site : List Cond := [.fieldLink "java/lang/String" 38 "java/lang/String" "COMPACT_STRINGS" "Z", Cmp3.tab, CodL.tab, .laysFinal "java/lang/String" "java/lang/String" "value" "[B", .fieldLink "java/lang/String" 9 "java/lang/String" "value" "[B", .laysFinal "java/lang/String" "java/lang/String" "coder" "B", .fieldLink "java/lang/String" 15 "java/lang/String" "coder" "B"] ++ objW "java/lang/String" 1 ++ staticW "java/lang/String" 177 Cmp3.yN ++ staticW "java/lang/String" 47 CodL.yN
def tab : Cond := tabOf yN yB 6 none site
def P (a : Addr) (D : Cell) (fV fC : Field) (b : Addr) (A : Cell) (z : Int32) (o len : Nat) (args : Array Value) (s : State) : Prop := args = #[.ref a, .ref b, .int (Int32.ofNat o), .int (Int32.ofNat len), .null] ∧ Blank "java/lang/String" a D s ∧ Found "java/lang/String" "value" "[B" fV s ∧ Found "java/lang/String" "coder" "B" fC s ∧ Ch b A s ∧ StaticIs s "java/lang/String" "COMPACT_STRINGS" "Z" (.int z) ∧ ¬ z = 0 ∧ 0 < len ∧ o + len ≤ A.slots.size ∧ len ≤ 536870912 ∧ ∀ i, i < len → ¬ 255 < cv A (o + i)
def E (a : Addr) (D : Cell) (fV fC : Field) (A : Cell) (o len : Nat) (r : Option Value) (s u : State) : Prop := Got a D fV fC A o len r s u
/-- len > 0, no char of the range above 255: a Latin-1 String of their low bytes -/
theorem law (l : Launch) (a : Addr) (D : Cell) (fV fC : Field) (b : Addr) (A : Cell) (z : Int32) (o len : Nat) : Law l yN 5 4 2 35 yB 6 none site (P a D fV fC b A z o len) (E a D fV fC A o len) [⟨a, fC.slot⟩, ⟨a, fV.slot⟩] 1 len := by
  refine Law.of_walk (plainFor_of_name (by decide +kernel)) (by decide +kernel) (by decide +kernel) (by decide) (fun _ _ h => by rw [h.1]; rfl) (fun _ U U' hal hh h => ⟨h.1, h.2.1.mv hal hh, h.2.2.1.al hal, h.2.2.2.1.al hal, h.2.2.2.2.1.mv hal hh, h.2.2.2.2.2.1.there hal hh, h.2.2.2.2.2.2⟩) (fun r U U' V V' h1 hal h2 h => Got.mv r U U' V V' h1 hal h2 h) ?_
  intro p e s m args below meth c s₁ X0 hexec hbytes hml hret hlk hnm hown hh0 W hP
  obtain ⟨rfl, hB, f1, f2, hA, s1, hz, l0, l1, l2, hp⟩ := hP
  have a31 := hA.1.2.2.2
  have c1 : Steps p.tables e below (s₁.setTop (entryFrame m #[.ref a, .ref b, .int (Int32.ofNat o), .int (Int32.ofNat len), .null] 6)) (s₁.setTop (mkF m 0 #[.val (.ref a), .val (.ref b), .val (.int (Int32.ofNat o)), .val (.int (Int32.ofNat len)), .val .null, .unset] [])) := entry rfl
  have c2 : Steps p.tables e below (s₁.setTop (entryFrame m #[.ref a, .ref b, .int (Int32.ofNat o), .int (Int32.ofNat len), .null] 6)) (s₁.setTop (mkF m 1 #[.val (.ref a), .val (.ref b), .val (.int (Int32.ofNat o)), .val (.int (Int32.ofNat len)), .val .null, .unset] [.ref a])) := c1.trans (by
    refine XS.aloadN X0.here hexec rfl (hb hbytes d0) rfl rfl ?_
    exact Steps.refl _)
  obtain ⟨T3, X3, q3, st3⟩ := X0.oinit hexec hown (wks W (objW "java/lang/String" 1)) (g := (mkF m 1 #[.val (.ref a), .val (.ref b), .val (.int (Int32.ofNat o)), .val (.int (Int32.ofNat len)), .val .null, .unset] [.ref a])) rfl (by rw [hml]; rfl) (rest := []) rfl (hb hbytes d1) (W := 0) (by show 2 * 0 + 0 ≤ _; decide) (Nat.le_of_ble_eq_true rfl) (Nat.le_of_ble_eq_true rfl)
  have hh3 := q3.trans hh0
  have c4 : Steps p.tables e below (s₁.setTop (entryFrame m #[.ref a, .ref b, .int (Int32.ofNat o), .int (Int32.ofNat len), .null] 6)) (T3.setTop (mkF m 27 #[.val (.ref a), .val (.ref b), .val (.int (Int32.ofNat o)), .val (.int (Int32.ofNat len)), .val .null, .unset] [])) := (c2.trans (st3 _ (Steps.refl _))).trans (by
    refine XS.iloadN X3.here hexec rfl (hb hbytes d4) rfl ?_
    refine XS.ifYes X3.here hexec rfl (pc0 := 5) rfl (hb hbytes d5) rfl (i0_ne_t (nz32 (by omega) l0)) (by decide) rfl ?_
    exact Steps.refl _)
  obtain ⟨T5, X5, q5, st5⟩ := X3.sget hexec hown (wk W (.fieldLink "java/lang/String" 38 "java/lang/String" "COMPACT_STRINGS" "Z")) s1 (fun _ _ h => by rw [hh3]; exact h) (g := (mkF m 27 #[.val (.ref a), .val (.ref b), .val (.int (Int32.ofNat o)), .val (.int (Int32.ofNat len)), .val .null, .unset] [])) rfl (hb hbytes d27)
  have hh5 := q5.trans hh3
  have c6 : Steps p.tables e below (s₁.setTop (entryFrame m #[.ref a, .ref b, .int (Int32.ofNat o), .int (Int32.ofNat len), .null] 6)) (T5.setTop (mkF m 30 #[.val (.ref a), .val (.ref b), .val (.int (Int32.ofNat o)), .val (.int (Int32.ofNat len)), .val .null, .unset] [.int z])) := c4.trans (st5 _ (Steps.refl _))
  have c7 : Steps p.tables e below (s₁.setTop (entryFrame m #[.ref a, .ref b, .int (Int32.ofNat o), .int (Int32.ofNat len), .null] 6)) (T5.setTop (mkF m 36 #[.val (.ref a), .val (.ref b), .val (.int (Int32.ofNat o)), .val (.int (Int32.ofNat len)), .val .null, .unset] [.int (Int32.ofNat len), .int (Int32.ofNat o), .ref b])) := c6.trans (by
    refine XS.ifNo X5.here hexec rfl (hb hbytes d30) rfl (i0_eq_f hz) ?_
    refine XS.aloadN X5.here hexec rfl (hb hbytes d33) rfl rfl ?_
    refine XS.iloadN X5.here hexec rfl (hb hbytes d34) rfl ?_
    refine XS.iloadN X5.here hexec rfl (hb hbytes d35) rfl ?_
    exact Steps.refl _)
  obtain ⟨v8, T8, X8, E8, g8⟩ := X5.callS hexec (Cmp3.law l b A o len) hown (wks W (staticW "java/lang/String" 177 Cmp3.yN)) (wk W Cmp3.tab) (W := 0) (Nat.le_of_ble_eq_true rfl) (Nat.le_of_ble_eq_true rfl) (Nat.le_refl _) (by show 0 + len ≤ len; omega) (g := (mkF m 36 #[.val (.ref a), .val (.ref b), .val (.int (Int32.ofNat o)), .val (.int (Int32.ofNat len)), .val .null, .unset] [.int (Int32.ofNat len), .int (Int32.ofNat o), .ref b])) rfl (by rw [hml]; rfl) c7 (argsL := [.ref b, .int (Int32.ofNat o), .int (Int32.ofNat len)]) (rest := []) rfl rfl (by show 2 * 0 + 0 ≤ _; decide) (hb hbytes d36) (⟨rfl, hA.mv X5.warmed.alike hh5, l1, l2, hp⟩)
  obtain ⟨e8, z8⟩ := E8
  obtain ⟨rfl, N, n1, n2, n3, n4, n5, n6⟩ := NewArr.mv _ T5 s _ _ hh5.symm (Vm.Alike.refl _) rfl e8
  rw [hh5] at z8
  have hB1 := hB.keep X8.warmed.alike (n6 _ _ hB.1)
  have hne : s.heap.size ≠ a := (Nat.ne_of_lt (Array.getElem?_eq_some_iff.mp hB.1).1).symm
  have c9 : Steps p.tables e below (s₁.setTop (entryFrame m #[.ref a, .ref b, .int (Int32.ofNat o), .int (Int32.ofNat len), .null] 6)) (T8.setTop (mkF m 39 #[.val (.ref a), .val (.ref b), .val (.int (Int32.ofNat o)), .val (.int (Int32.ofNat len)), .val .null, .unset] [.ref s.heap.size])) := g8
  have c10 : Steps p.tables e below (s₁.setTop (entryFrame m #[.ref a, .ref b, .int (Int32.ofNat o), .int (Int32.ofNat len), .null] 6)) (T8.setTop (mkF m 45 #[.val (.ref a), .val (.ref b), .val (.int (Int32.ofNat o)), .val (.int (Int32.ofNat len)), .val .null, .val (.ref s.heap.size)] [.int (Int32.ofNat N.slots.size), .ref s.heap.size, .ref a])) := by
    have hc : Steps p.tables e below (s₁.setTop (entryFrame m #[.ref a, .ref b, .int (Int32.ofNat o), .int (Int32.ofNat len), .null] 6)) (T8.setTop (mkF m 45 #[.val (.ref a), .val (.ref b), .val (.int (Int32.ofNat o)), .val (.int (Int32.ofNat len)), .val .null, .val (.ref s.heap.size)] [.int (Int32.ofNat len), .ref s.heap.size, .ref a])) := c9.trans (by
      refine XS.astore X8.here hexec rfl (hb hbytes d39) rfl rfl rfl ?_
      refine XS.aloadN X8.here hexec rfl (hb hbytes d41) rfl rfl ?_
      refine XS.aload X8.here hexec rfl (hb hbytes d42) rfl rfl ?_
      refine XS.iloadN X8.here hexec rfl (hb hbytes d44) rfl ?_
      exact Steps.refl _)
    rw [n4]; exact hc
  obtain ⟨v11, T11, X11, E11, g11⟩ := X8.callS hexec (CodL.law l s.heap.size N) hown (wks W (staticW "java/lang/String" 47 CodL.yN)) (wk W CodL.tab) (W := 1) (Nat.le_of_ble_eq_true rfl) (Nat.le_of_ble_eq_true rfl) (Nat.le_refl _) (by show 0 + len + 0 ≤ len; omega) (g := (mkF m 45 #[.val (.ref a), .val (.ref b), .val (.int (Int32.ofNat o)), .val (.int (Int32.ofNat len)), .val .null, .val (.ref s.heap.size)] [.int (Int32.ofNat N.slots.size), .ref s.heap.size, .ref a])) rfl (by rw [hml]; rfl) c10 (argsL := [.ref s.heap.size, .int (Int32.ofNat N.slots.size)]) (rest := [.ref a]) rfl rfl (by show 2 * 0 + (1 + 0) ≤ _; decide) (hb hbytes d45) (⟨rfl, n1⟩)
  obtain ⟨rfl, q11⟩ := E11
  have hB11 := hB1.mv (X8.warmed.alike.symm.trans X11.warmed.alike) q11
  have c12 : Steps p.tables e below (s₁.setTop (entryFrame m #[.ref a, .ref b, .int (Int32.ofNat o), .int (Int32.ofNat len), .null] 6)) (T11.setTop (mkF m 48 #[.val (.ref a), .val (.ref b), .val (.int (Int32.ofNat o)), .val (.int (Int32.ofNat len)), .val .null, .val (.ref s.heap.size)] [.int 0, .ref a])) := g11
  obtain ⟨T13, X13, p13, bl13, sl13, st13⟩ := X11.finit hexec hown (wk W (.fieldLink "java/lang/String" 15 "java/lang/String" "coder" "B")) (Or.inr ⟨_, (wk W (.laysFinal "java/lang/String" "java/lang/String" "coder" "B"))⟩) (Or.inl ⟨rfl, hnm⟩) f2 (Or.inl rfl) hB11 (t := .byte) (by decide +kernel) rfl (g := (mkF m 48 #[.val (.ref a), .val (.ref b), .val (.int (Int32.ofNat o)), .val (.int (Int32.ofNat len)), .val .null, .val (.ref s.heap.size)] [.int 0, .ref a])) rfl (rest := []) rfl (hb hbytes d48)
  have c14 : Steps p.tables e below (s₁.setTop (entryFrame m #[.ref a, .ref b, .int (Int32.ofNat o), .int (Int32.ofNat len), .null] 6)) (T13.setTop (mkF m 54 #[.val (.ref a), .val (.ref b), .val (.int (Int32.ofNat o)), .val (.int (Int32.ofNat len)), .val .null, .val (.ref s.heap.size)] [.ref s.heap.size, .ref a])) := (c12.trans (st13 _ (Steps.refl _))).trans (by
    refine XS.aloadN X13.here hexec rfl (hb hbytes d51) rfl rfl ?_
    refine XS.aload X13.here hexec rfl (hb hbytes d52) rfl rfl ?_
    exact Steps.refl _)
  obtain ⟨T15, X15, p15, bl15, sl15, st15⟩ := X13.finit hexec hown (wk W (.fieldLink "java/lang/String" 9 "java/lang/String" "value" "[B")) (Or.inr ⟨_, (wk W (.laysFinal "java/lang/String" "java/lang/String" "value" "[B"))⟩) (Or.inl ⟨rfl, hnm⟩) f1 (Or.inl rfl) bl13 (t := (.array .byte)) (by decide +kernel) rfl (g := (mkF m 54 #[.val (.ref a), .val (.ref b), .val (.int (Int32.ofNat o)), .val (.int (Int32.ofNat len)), .val .null, .val (.ref s.heap.size)] [.ref s.heap.size, .ref a])) rfl (rest := []) rfl (hb hbytes d54)
  have c16 : Steps p.tables e below (s₁.setTop (entryFrame m #[.ref a, .ref b, .int (Int32.ofNat o), .int (Int32.ofNat len), .null] 6)) (T15.setTop (mkF m 57 #[.val (.ref a), .val (.ref b), .val (.int (Int32.ofNat o)), .val (.int (Int32.ofNat len)), .val .null, .val (.ref s.heap.size)] [])) := c14.trans (st15 _ (Steps.refl _))
  have ap := apart (Or.inr ⟨_, (wk W (.laysFinal "java/lang/String" "java/lang/String" "value" "[B"))⟩) (Or.inr ⟨_, (wk W (.laysFinal "java/lang/String" "java/lang/String" "coder" "B"))⟩) f1 f2 (t₁ := .array .byte) (t₂ := .byte) (by decide +kernel) (by decide +kernel) (by decide)
  have al := X8.warmed.alike.symm.trans X15.warmed.alike
  have n7 : T11.heap[s.heap.size]? = some N := by rw [q11]; exact n1.1
  exact ⟨T15, none, _, _, _, X15, by simp, rfl, by omega, (fun _ => rfl), ⟨rfl, _, N, bl15, ((Same.refl D _).set _ (by simp)).set _ (by simp), sl15, (Cell.slots_setSlot_ne _ ap).trans sl13, n1.keep al (p15.other hne (p13.other hne n7)), n2, by rw [al.findClass]; exact n3, n4, n5, fun y c h1 h2 => p15.other h1 (p13.other h1 (by rw [q11]; exact n6 y c h2)), by rw [p15.2.2, p13.2.2, q11]; exact z8⟩, fun fs hl => c16.trans (X15.returnOut hexec hret (hb hbytes d57) hl)⟩
end New4
namespace New1
def yN : MethodName := ⟨"java/lang/String", "<init>", "([C)V"⟩
abbrev yB : ByteArray := jdk_42_method_3_code
theorem d0 : decode yB 0 = .ok (.aload_n 0, 1) := by decide +kernel
theorem d1 : decode yB 1 = .ok (.aload_n 1, 1) := by decide +kernel
theorem d2 : decode yB 2 = .ok (.iconst 0, 1) := by decide +kernel
theorem d3 : decode yB 3 = .ok (.aload_n 1, 1) := by decide +kernel
theorem d4 : decode yB 4 = .ok (.arraylength, 1) := by decide +kernel
theorem d5 : decode yB 5 = .ok (.aconst_null, 1) := by decide +kernel
theorem d6 : decode yB 6 = .ok (.invokespecial 27, 3) := by decide +kernel
theorem d9 : decode yB 9 = .ok (.return_, 1) := by decide +kernel
def site : List Cond := [New4.tab] ++ initW "java/lang/String" 27 New4.yN
def tab : Cond := tabOf yN yB 2 none site
def P (a : Addr) (D : Cell) (fV fC : Field) (b : Addr) (A : Cell) (z : Int32) (args : Array Value) (s : State) : Prop := args = #[.ref a, .ref b] ∧ Blank "java/lang/String" a D s ∧ Found "java/lang/String" "value" "[B" fV s ∧ Found "java/lang/String" "coder" "B" fC s ∧ Ch b A s ∧ StaticIs s "java/lang/String" "COMPACT_STRINGS" "Z" (.int z) ∧ ¬ z = 0 ∧ 0 < A.slots.size ∧ A.slots.size ≤ 536870912 ∧ ∀ i, i < A.slots.size → ¬ 255 < cv A i
def E (a : Addr) (D : Cell) (fV fC : Field) (A : Cell) (r : Option Value) (s u : State) : Prop := Got a D fV fC A 0 A.slots.size r s u
/-- new String(chars), not empty, no char above 255: a Latin-1 String of their low bytes -/
theorem law (l : Launch) (a : Addr) (D : Cell) (fV fC : Field) (b : Addr) (A : Cell) (z : Int32) : Law l yN 2 1 3 52 yB 2 none site (P a D fV fC b A z) (E a D fV fC A) [⟨a, fC.slot⟩, ⟨a, fV.slot⟩] 1 A.slots.size := by
  refine Law.of_walk (plainFor_of_name (by decide +kernel)) (by decide +kernel) (by decide +kernel) (by decide) (fun _ _ h => by rw [h.1]; rfl) (fun _ U U' hal hh h => ⟨h.1, h.2.1.mv hal hh, h.2.2.1.al hal, h.2.2.2.1.al hal, h.2.2.2.2.1.mv hal hh, h.2.2.2.2.2.1.there hal hh, h.2.2.2.2.2.2⟩) (fun r U U' V V' h1 hal h2 h => Got.mv r U U' V V' h1 hal h2 h) ?_
  intro p e s m args below meth c s₁ X0 hexec hbytes hml hret hlk hnm hown hh0 W hP
  obtain ⟨rfl, hB, f1, f2, hA, s1, hz, l0, l2, hp⟩ := hP
  have c1 : Steps p.tables e below (s₁.setTop (entryFrame m #[.ref a, .ref b] 2)) (s₁.setTop (mkF m 0 #[.val (.ref a), .val (.ref b)] [])) := entry rfl
  have c2 : Steps p.tables e below (s₁.setTop (entryFrame m #[.ref a, .ref b] 2)) (s₁.setTop (mkF m 6 #[.val (.ref a), .val (.ref b)] [.null, .int (Int32.ofNat A.slots.size), .int 0, .ref b, .ref a])) := c1.trans (by
    refine XS.aloadN X0.here hexec rfl (hb hbytes d0) rfl rfl ?_
    refine XS.aloadN X0.here hexec rfl (hb hbytes d1) rfl rfl ?_
    refine iconstV X0.here hexec rfl 0 (hb hbytes d2) (by decide) ?_
    refine XS.aloadN X0.here hexec rfl (hb hbytes d3) rfl rfl ?_
    refine X0.alen hexec (hA.1.mv X0.warmed.alike hh0) rfl rfl (hb hbytes d4) ?_
    refine XS.aconstNull X0.here hexec rfl (hb hbytes d5) ?_
    exact Steps.refl _)
  obtain ⟨v3, T3, X3, E3, g3⟩ := X0.callN hexec (New4.law l a D fV fC b A z 0 A.slots.size) rfl hown (wks W (initW "java/lang/String" 27 New4.yN)) (W New4.tab (by simp only [site, List.mem_cons, List.mem_append, true_or, or_true])) (W := 0) (Nat.le_of_ble_eq_true rfl) (Nat.le_of_ble_eq_true rfl) (Nat.le_refl _) (by show 0 + A.slots.size ≤ A.slots.size; omega) (g := (mkF m 6 #[.val (.ref a), .val (.ref b)] [.null, .int (Int32.ofNat A.slots.size), .int (Int32.ofNat 0), .ref b, .ref a])) rfl (by rw [hml]; rfl) c2 (argsL := [.ref b, .int (Int32.ofNat 0), .int (Int32.ofNat A.slots.size), .null]) (rest := []) rfl rfl (by show 2 * 0 + 0 ≤ _; decide) (hb hbytes d6) (⟨rfl, hB.mv X0.warmed.alike hh0, f1.al X0.warmed.alike, f2.al X0.warmed.alike, hA.mv X0.warmed.alike hh0, s1.there X0.warmed.alike hh0, hz, l0, by omega, l2, fun i hi => by rw [Nat.zero_add]; exact hp i hi⟩)
  have e0 := Got.mv _ s₁ s _ _ hh0.symm (Vm.Alike.refl _) rfl E3
  obtain rfl := e0.1
  have c4 : Steps p.tables e below (s₁.setTop (entryFrame m #[.ref a, .ref b] 2)) (T3.setTop (mkF m 9 #[.val (.ref a), .val (.ref b)] [])) := g3
  exact ⟨T3, none, _, _, _, X3, by simp, rfl, by omega, (fun _ => rfl), e0, fun fs hl => c4.trans (X3.returnOut hexec hret (hb hbytes d9) hl)⟩
theorem pays {l : Launch} {R : Room} {p : Program} {e : Env} {below : List Frame} {s : State} {sargs : Array Value} {len W : Nat} (a : Addr) (D : Cell) (fV fC : Field) (b : Addr) (A : Cell) (z : Int32) (htab : tab.before sargs s = true) (hfr : 4 ≤ R.frames) (hlo : W + 65 ≤ R.locals) :
    Back l R p e below s sargs yN len W (fun A₁ a₁ => A₁.cells + 1 ≤ R.cells ∧ A₁.slots + A.slots.size ≤ R.slots ∧ P a D fV fC b A z a₁ A₁.U) (fun A₁ _ v₁ B₁ => E a D fV fC A v₁ A₁.U B₁.U ∧ B₁.locs = A₁.locs ++ [⟨a, fC.slot⟩, ⟨a, fV.slot⟩] ∧ B₁.cells = A₁.cells + 1 ∧ B₁.slots = A₁.slots + A.slots.size) :=
  (law l a D fV fC b A z).pays htab hfr (by omega)
end New1
/-- the byte, read back as charAt reads it, is the char -/
theorem lo8_mask {x : Int32} (h0 : ¬ x < 0) (h1 : ¬ 255 < x) : lo8 x &&& 255 = x := by
  have t : ∀ k : Fin 256, lo8 (Int32.ofNat k.val) &&& 255 = Int32.ofNat k.val := by decide +kernel
  rw [Int32.lt_iff_toInt_lt] at h0 h1
  have e0 : (0 : Int32).toInt = 0 := rfl
  have e1 : (255 : Int32).toInt = 255 := rfl
  obtain ⟨k, hk⟩ : ∃ k : Nat, x.toInt = k := ⟨x.toInt.toNat, by omega⟩
  have hx : x = Int32.ofNat k := Int32.toInt_inj.mp (by rw [hk, Int32.toInt_ofNat_small (by omega)])
  rw [hx]
  exact t ⟨k, by omega⟩
end StrChars
namespace StrChars.Road
open Jvm Sem ClassFile Op Lib Jvm.Stand Jvm.Free Jvm.Free.XT
open Jvm.Lib.Cold (StaticIs)
abbrev ST : String := "java/lang/String"
/-- every table word that New1's law asks, flat -/
abbrev words : List Jvm.Cond := [.code New1.yN New1.yB 2 none, .initialized ST, .methodLink ST 27 New4.yN, .instanceMethod New4.yN,
  .code New4.yN New4.yB 6 none, .fieldLink ST 38 ST "COMPACT_STRINGS" "Z", .laysFinal ST ST "value" "[B", .fieldLink ST 9 ST "value" "[B", .laysFinal ST ST "coder" "B", .fieldLink ST 15 ST "coder" "B",
  .methodLink ST 1 Lib.objectInit, .instanceMethod Lib.objectInit, .code Lib.objectInit ⟨#[0xb1]⟩ 1 none, .methodLink ST 177 Cmp3.yN, .static Cmp3.yN, .methodLink ST 47 CodL.yN, .static CodL.yN,
  .code Cmp3.yN Cmp3.yB 6 (some (.array .byte)), .initialized U16, .arrayClass .byte, .methodLink U16 115 Cmp5.yN, .static Cmp5.yN, .code Cmp5.yN Cmp5.yB 7 (some .int), .code CodL.yN CodL.yB 2 (some .byte)]
theorem tab_of {a : Array Value} {s : State} (h : ∀ w ∈ words, w.before a s = true) : New1.tab.before a s = true := by
  have h5 : Cmp5.tab.before a s = true := unparts (wk h (.code Cmp5.yN Cmp5.yB 7 (some .int))) (wks h (.initialized Cmp5.yN.cls :: Cmp5.site))
  have hc : CodL.tab.before a s = true := unparts (wk h (.code CodL.yN CodL.yB 2 (some .byte))) (wks h (.initialized CodL.yN.cls :: CodL.site))
  have q5 : ∀ w ∈ Cmp5.tab :: words, w.before a s = true := fun w hw => (List.mem_cons.mp hw).elim (fun e => e ▸ h5) (h w)
  have h3 : Cmp3.tab.before a s = true := unparts (wk q5 (.code Cmp3.yN Cmp3.yB 6 (some (.array .byte)))) (wks q5 (.initialized Cmp3.yN.cls :: Cmp3.site))
  have q3 : ∀ w ∈ Cmp3.tab :: CodL.tab :: words, w.before a s = true := fun w hw => (List.mem_cons.mp hw).elim (fun e => e ▸ h3) fun hw => (List.mem_cons.mp hw).elim (fun e => e ▸ hc) (h w)
  have h4 : New4.tab.before a s = true := unparts (wk q3 (.code New4.yN New4.yB 6 none)) (wks q3 (.initialized New4.yN.cls :: New4.site))
  have q4 : ∀ w ∈ New4.tab :: words, w.before a s = true := fun w hw => (List.mem_cons.mp hw).elim (fun e => e ▸ h4) (h w)
  exact unparts (wk q4 (.code New1.yN New1.yB 2 none)) (wks q4 (.initialized New1.yN.cls :: New1.site))
/-- the words ride from the start Z to the walk's own state -/
theorem moved {Z s : State} {a0 args : Array Value} (hZ : Z.Warmed39 s.vm) (hw : ∀ d ∈ words, d.before a0 Z = true) : ∀ d ∈ words, d.before args s = true := fun d hd => by
  have q := hw d hd
  have t : ∀ d ∈ words, d = .arrayClass .byte ∨ (d.onTables && d.keepsFace) = true := by decide +kernel
  rcases t d hd with rfl | t
  · exact RoadKit.mvA hZ q
  · exact RoadKit.mv hZ q t
/-- WHAT COMES BACK, over the tables of the start Z: h the heap at the call, h' behind it -/
def Q (Z : State) (x : Addr) (A : Cell) (h : Heap) (v : Option Value) (h' : Heap) (L : List Loc) : Prop := v = none ∧ (∀ y ∈ L, y.base = x) ∧ RoadKit.Keep h h' [x] ∧ h'.size = h.size + 1 ∧ RoadKit.Exa Z h' x ST ∧ RoadKit.Fld Z h' x ST "value" "[B" (.ref h.size) ∧ RoadKit.Fld Z h' x ST "coder" "B" (.int 0) ∧
  (∃ V : Cell, RoadKit.Arr Z h' h.size V .byte ∧ V.vm = .none ∧ Z.vm.findClass "[B" = some V.cls ∧ V.slots.size = A.slots.size ∧ ∀ j, j < A.slots.size → V.slots[j]? = some (.int (lo8 (cv A j)))) ∧
  ∀ (O n d : String) (w : Value), RoadKit.Fld Z h x O n d w → RoadKit.slotOf Z O n d ≠ RoadKit.slotOf Z ST "value" "[B" → RoadKit.slotOf Z O n d ≠ RoadKit.slotOf Z ST "coder" "B" → RoadKit.Fld Z h' x O n d w
/-- **new String(chars) AT A CALL, IN THE ROAD'S FORM**: for specialBack behind newO: x the fresh String, b the char[] with the cell A -/
theorem back {p : Program} {l : Launch} {e : Env} {R : Room} {s : State} {args : Array Value} {below : List Frame} {len W : Nat} {Z : State} {a0 : Array Value} {h : Heap} (hZ : Z.Warmed39 s.vm) (hw : ∀ d ∈ words, d.before a0 Z = true) {kI : Nat} (wi : (Jvm.Cond.instantiable ST kI).before a0 Z = true)
    {x b : Addr} {A : Cell} {z : Int32} {v0 c0 : Value} (E : RoadKit.Exa Z h x ST) (V : RoadKit.Fld Z h x ST "value" "[B" v0) (C : RoadKit.Fld Z h x ST "coder" "B" c0) (K : RoadKit.Arr Z h b A .char) (hty : Typed .char A) (S : RoadKit.Sta Z h ST "COMPACT_STRINGS" "Z" (.int z)) (hz : ¬ z = 0)
    (l0 : 0 < A.slots.size) (l2 : A.slots.size ≤ 536870912) (hp : ∀ i, i < A.slots.size → ¬ 255 < cv A i) (hfr : 4 ≤ R.frames) (hlo : W + 65 ≤ R.locals) :
    Back l R p e below s args New1.yN len W (fun P a => a = #[.ref x, .ref b] ∧ P.U.heap = h ∧ P.cells + 1 ≤ R.cells ∧ P.slots + A.slots.size ≤ R.slots)
      (fun P _ v B => ∃ L, Q Z x A h v B.U.heap L ∧ B.locs = P.locs ++ L ∧ B.cells = P.cells + 1 ∧ B.slots = P.slots + A.slots.size) := by
  intro m meth c P g ig mk a X hg hsize hdg hW hn hp'
  obtain ⟨rfl, rfl, r1, r2⟩ := hp'
  have al : Z.vm.Alike P.U.vm := hZ.alike.trans X.warmed.alike
  obtain ⟨D, cfV, kV, iV, fV, hD, gV, stV, knV, obV, asV, slV⟩ := id V
  obtain ⟨D', cfC, kC, iC, fC, hD', gC, stC, -, -, asC, slC⟩ := id C
  cases hD.symm.trans hD'
  obtain ⟨D2, kD, e1, e2, e3, e4, e5⟩ := id E
  cases hD.symm.trans e1
  obtain ⟨c2, k2, i1, i2, i3, -⟩ := Cond.instantiable_spec wi
  cases e2.symm.trans i1
  cases e3.symm.trans i2
  obtain ⟨kU, u1, u2⟩ := al.2.2 _ _ e3
  have hB : Blank ST x D P.U := ⟨hD, ⟨knV, fun q hq => by rw [hq] at obV; cases obV⟩, by rw [al.findClass]; exact e2, kU, u1, by rw [u2]; exact i3, by rw [u2]; exact e5 i3⟩
  have F1 : Found ST "value" "[B" fV P.U := ⟨SBG.found_only al ⟨cfV, kV, iV, gV⟩, stV⟩
  have F2 : Found ST "coder" "B" fC P.U := ⟨SBG.found_only al ⟨cfC, kC, iC, gC⟩, stC⟩
  have hA : Ch b A P.U := ⟨⟨K.1, State.isArrayOf_alike al K.2.1, K.2.2, by omega⟩, hty⟩
  have hS : StaticIs P.U ST "COMPACT_STRINGS" "Z" (.int z) := by
    obtain ⟨cfS, iS, kS, fS, st, cS, t1, t2, t3, t4, t5, t6, t7⟩ := S
    exact StaticIs.there (s := { Z with heap := P.U.heap }) ⟨cfS, iS, kS, fS, st, cS, t1, t2, t3, t4, t5, (fun q => by rw [q] at t6; cases t6), t7⟩ al rfl
  obtain ⟨v, B, X', ⟨⟨hv, E', V', q1, q2, q3, q4, q5, q6, q7, q8, q9, q10, q11⟩, hl, hc, hs⟩, st⟩ := New1.pays x D fV fC b A z (tab_of (moved hZ hw)) hfr hlo m meth c P g ig mk _ X hg hsize hdg hW hn ⟨r1, r2, rfl, hB, F1, F2, hA, hS, hz, l0, l2, hp⟩
  have al' : Z.vm.Alike B.U.vm := hZ.alike.trans X'.warmed.alike
  have hsz : E'.slots.size = D.slots.size := by
    obtain ⟨-, -, -, kB, w1, w2, w3⟩ := q1
    obtain ⟨kB', y1, y2⟩ := al'.2.2 _ _ e3
    rw [q2.2.1] at w1
    cases w1.symm.trans y1
    rw [w3, e5 i3, y2]
  refine ⟨v, B, X', ⟨_, ⟨hv, ?_, ⟨by omega, fun y cy hy hn' => q10 y cy (by simpa using hn') hy, fun y cy hy => ?_⟩, q11, ⟨E', _, q1.1, by rw [q2.2.1]; exact e2, by rw [q2.2.1]; exact e3, by rw [q2.1]; exact obV, fun _ => by rw [hsz]; exact e5 i3⟩,
    ⟨E', cfV, kV, iV, fV, q1.1, gV, stV, by rw [q2.1]; exact knV, by rw [q2.1]; exact obV, by rw [q2.2.1]; exact asV, q3⟩, ⟨E', cfC, kC, iC, fC, q1.1, gC, stC, by rw [q2.1]; exact knV, by rw [q2.1]; exact obV, by rw [q2.2.1]; exact asC, q4⟩,
    ⟨V', ⟨q5.1, State.isArrayOf_alike al'.symm q5.2.1, q5.2.2.1⟩, q6, by rw [← al'.findClass]; exact q7, q8, fun j hj => by have := q9 j hj; rwa [Nat.zero_add] at this⟩, fun O n d w F n1 n2 => ?_⟩, hl, hc, hs⟩, st⟩
  · intro y hy
    simp only [List.mem_cons, List.not_mem_nil, or_false] at hy
    rcases hy with rfl | rfl <;> rfl
  · by_cases q : y = x
    · subst q
      cases hD.symm.trans hy
      exact ⟨E', q1.1, q2.2.1, q2.1, hsz⟩
    · exact ⟨cy, q10 y cy q hy, rfl, rfl, rfl⟩
  · obtain ⟨D3, cf, k, i, f, g1, g2, g3, g4, g5, g6, g7⟩ := F
    cases hD.symm.trans g1
    simp only [RoadKit.slotOf, g2, gV, gC, Option.map_some, Option.getD_some] at n1 n2
    exact ⟨E', cf, k, i, f, q1.1, g2, g3, by rw [q2.1]; exact g4, by rw [q2.1]; exact g5, by rw [q2.2.1]; exact g6, by rw [q2.2.2 f.slot (by simp [n1, n2])]; exact g7⟩
end StrChars.Road
namespace StrChars.Road
open Jvm Sem ClassFile Op Lib Jvm.Stand Jvm.Free Jvm.Free.XT
/-- WHAT COMES BACK, the byte[] as a list of values -/
def QA (Z : State) (x : Addr) (zn : Int32) (cs : List Int32) (h : Heap) (v : Option Value) (h' : Heap) (L : List Loc) : Prop := v = none ∧ (∀ y ∈ L, y.base = x) ∧ RoadKit.Keep h h' [x] ∧ h'.size = h.size + 1 ∧ RoadKit.Exa Z h' x ST ∧ RoadKit.Fld Z h' x ST "value" "[B" (.ref h.size) ∧ RoadKit.Fld Z h' x ST "coder" "B" (.int 0) ∧
  (∃ kb, Z.vm.findClass "[B" = some kb ∧ RoadKit.Arv Z h' h.size kb .byte zn (cs.map fun c => .int (lo8 c)) (.int 0)) ∧
  ∀ (O n d : String) (w : Value), RoadKit.Fld Z h x O n d w → RoadKit.slotOf Z O n d ≠ RoadKit.slotOf Z ST "value" "[B" → RoadKit.slotOf Z O n d ≠ RoadKit.slotOf Z ST "coder" "B" → RoadKit.Fld Z h' x O n d w
/-- **new String(chars) AT A CALL, THE ARRAYS AS LISTS**: the char[] at b holds cs, not empty, no char above 255 -/
theorem backArv {p : Program} {l : Launch} {e : Env} {R : Room} {s : State} {args : Array Value} {below : List Frame} {len W : Nat} {Z : State} {a0 : Array Value} {h : Heap} (hZ : Z.Warmed39 s.vm) (hw : ∀ d ∈ words, d.before a0 Z = true) {kI : Nat} (wi : (Jvm.Cond.instantiable ST kI).before a0 Z = true)
    {x b : Addr} {k : ClassId} {zn z : Int32} {cs : List Int32} {dv v0 c0 : Value} (E : RoadKit.Exa Z h x ST) (V : RoadKit.Fld Z h x ST "value" "[B" v0) (C : RoadKit.Fld Z h x ST "coder" "B" c0) (K : RoadKit.Arv Z h b k .char zn (cs.map Value.int) dv) (S : RoadKit.Sta Z h ST "COMPACT_STRINGS" "Z" (.int z)) (hz : ¬ z = 0)
    (hlen : zn.toNatClampNeg = cs.length) (h0 : 0 < cs.length) (hbig : cs.length ≤ 536870912) (hall : ∀ c ∈ cs, ¬ 255 < c) (hfr : 4 ≤ R.frames) (hlo : W + 65 ≤ R.locals) :
    Back l R p e below s args New1.yN len W (fun P a => a = #[.ref x, .ref b] ∧ P.U.heap = h ∧ P.cells + 1 ≤ R.cells ∧ P.slots + cs.length ≤ R.slots)
      (fun P _ v B => ∃ L, QA Z x zn cs h v B.U.heap L ∧ B.locs = P.locs ++ L ∧ B.cells = P.cells + 1 ∧ B.slots = P.slots + cs.length) := by
  obtain ⟨A, K1, K2, K3, K4, K5, K6⟩ := K
  have e : A.slots.size = cs.length := K3.trans hlen
  have hat : ∀ (i : Nat) (hi : i < cs.length), A.slots[i]? = some (.int cs[i]) := fun i hi => by rw [K5 i (by omega)]; simp [List.getD_eq_getElem?_getD, hi]
  have hcv : ∀ (i : Nat) (hi : i < cs.length), cv A i = cs[i] := fun i hi => by unfold cv; rw [hat i hi]
  have hty : Typed .char A := fun i v hv => by
    have hi : i < A.slots.size := (Array.getElem?_eq_some_iff.mp hv).1
    have q := K5 i hi
    rw [hv] at q
    rw [Option.some.inj q]
    exact K6 i hi
  refine Back.mono (back hZ hw wi E V C K1 hty S hz (by omega) (by omega) (fun i hi => by rw [hcv i (by omega)]; exact hall _ (List.getElem_mem _)) hfr hlo) (fun P a hp => ⟨hp.1, hp.2.1, hp.2.2.1, by rw [e]; exact hp.2.2.2⟩) (fun P a v B hp hq => ?_)
  obtain ⟨L, ⟨q1, q2, q3, q4, q5, q6, q7, ⟨V', v1, v2, v3, v4, v5⟩, q9⟩, hl, hc, hs⟩ := hq
  refine ⟨L, ⟨q1, q2, q3, q4, q5, q6, q7, ⟨V'.cls, v3, V', v1, rfl, by rw [v4, e, hlen], K4, fun i hi => ?_, fun i hi => ?_⟩, q9⟩, hl, hc, by rw [hs, e]⟩
  · have hi' : i < cs.length := by omega
    rw [v5 i (by omega), hcv i hi']; simp [List.getD_eq_getElem?_getD, hi']
  · have hi' : i < cs.length := by omega
    simp only [List.getD_eq_getElem?_getD, List.getElem?_map, List.getElem?_eq_getElem hi', Option.map_some, Option.getD_some]
    exact fits_lo8 _
end StrChars.Road
namespace StrChars.Road
open Jvm Sem ClassFile Op Lib Jvm.Stand Jvm.Free Jvm.Free.XT
/-- WHAT COMES BACK, in the writer's own shape -/
def QV (Z : State) (x : Addr) (N : Int32) (bs : List Int32) (h : Heap) (n0 : Nat) (v : Option Value) (h' : Heap) (L : List Loc) : Prop := v = none ∧ RoadKit.Fr n0 L ∧ RoadKit.Keep h h' [x] ∧ RoadKit.Exa Z h' x ST ∧ RoadKit.Fld Z h' x ST "coder" "B" (.int 0) ∧
  ∃ (t : Addr) (kb : ClassId), n0 ≤ t ∧ h.size ≤ t ∧ ¬ t = x ∧ RoadKit.Fld Z h' x ST "value" "[B" (.ref t) ∧ RoadKit.Arv Z h' t kb .byte N (bs.map Value.int) (.int 0)
/-- **new String(chars) AT A CALL, FOR THE WRITER**: a char[] of n known ints, each 0 to 255 -/
theorem backV {p : Program} {l : Launch} {e : Env} {R : Room} {s : State} {args : Array Value} {below : List Frame} {len W : Nat} {Z : State} {a0 : Array Value} {h : Heap} (hZ : Z.Warmed39 s.vm) (hw : ∀ d ∈ words, d.before a0 Z = true) {kI : Nat} (wi : (Jvm.Cond.instantiable ST kI).before a0 Z = true)
    {x b : Addr} {kC : ClassId} {cs bs : List Int32} {d v0 c0 : Value} {z N : Int32} {n n0 : Nat} (hx0 : n0 ≤ x) (hh0 : n0 ≤ h.size) (E : RoadKit.Exa Z h x ST) (V : RoadKit.Fld Z h x ST "value" "[B" v0) (C : RoadKit.Fld Z h x ST "coder" "B" c0) (K : RoadKit.Arv Z h b kC .char N (cs.map Value.int) d) (S : RoadKit.Sta Z h ST "COMPACT_STRINGS" "Z" (.int z)) (hz : ¬ z = 0)
    (hn : cs.length = n) (hN : N = Int32.ofNat n) (l0 : 0 < n) (l2 : n ≤ 4000) (hp : ∀ c ∈ cs, ¬ c < 0 ∧ ¬ (255 : Int32) < c) (hb : bs = cs.map (fun c => c.toInt8.toInt32)) (hfr : 4 ≤ R.frames) (hlo : W + 65 ≤ R.locals) :
    Back l R p e below s args (⟨"java/lang/String", "<init>", "([C)V"⟩ : MethodName) len W (fun P a => a = #[.ref x, .ref b] ∧ P.U.heap = h ∧ P.cells + 1 ≤ R.cells ∧ P.slots + n ≤ R.slots)
      (fun P _ v B => ∃ L, QV Z x N bs h n0 v B.U.heap L ∧ B.locs = P.locs ++ L ∧ B.cells = P.cells + 1 ∧ B.slots = P.slots + n) := by
  subst hn hN hb
  refine Back.mono (backArv hZ hw wi E V C K S hz (n32 (by omega)) l0 (by omega) (fun c hc => (hp c hc).2) hfr hlo) (fun P a hp => hp) (fun P a v B hp hq => ?_)
  obtain ⟨L, ⟨q1, q2, q3, q4, q5, q6, q7, ⟨kb, v1, v2⟩, q9⟩, hl, hc, hs⟩ := hq
  exact ⟨L, ⟨q1, fun y hy => by rw [q2 y hy]; exact hx0, q3, q5, q7, h.size, kb, hh0, Nat.le_refl _, Nat.ne_of_gt E.lt, q6, by rw [List.map_map]; exact v2⟩, hl, hc, hs⟩
end StrChars.Road
namespace StrChars
open Jvm Sem ClassFile Op Lib Jvm.Stand Jvm.Free.XT Jvm.Free.ALB Jvm.Free.JM Jvm.Free
open Jvm.Lib.Cold (StaticIs)
def hi8 (x : Int32) : Int32 := lo8 (x >>> ((8 : Int32) &&& 31))
/-- what StringUTF16.getChar makes of two bytes -/
def pairCh (u v : Int32) : Int32 := (((u &&& 255) <<< ((0 : Int32) &&& 31)) ||| ((v &&& 255) <<< ((8 : Int32) &&& 31))).toUInt32.toUInt16.toUInt32.toInt32
theorem shr0 (c : Int32) : c >>> ((0 : Int32) &&& 31) = c := by
  have e : ((0 : Int32) &&& 31) = 0 := by decide
  rw [e]
  apply Int32.toBitVec_inj.mp
  rw [Int32.toBitVec_shiftRight]
  have e1 : ((0 : Int32).toBitVec.smod 32) = 0#32 := by decide
  rw [e1, BitVec.sshiftRight_eq']
  exact BitVec.sshiftRight_zero
theorem lo8_and (x : Int32) : (lo8 x &&& 255).toBitVec.toNat = x.toBitVec.toNat % 256 := by
  have h : (lo8 x).toBitVec = (x.toBitVec.signExtend 8).signExtend 32 := by rw [lo8, Int8.toBitVec_toInt32, Int32.toBitVec_toInt8]
  rw [Int32.toBitVec_and, BitVec.toNat_and, h]
  have e : ((x.toBitVec.signExtend 8).signExtend 32).toNat % 256 = x.toBitVec.toNat % 256 := by
    rw [BitVec.toNat_signExtend]
    have hlt := x.toBitVec.isLt
    simp only [BitVec.toNat_setWidth, BitVec.toNat_signExtend]
    split <;> split <;> omega
  rw [← e]
  exact Nat.and_two_pow_sub_one_eq_mod _ 8
theorem pair_says {c : Int32} (h0 : ¬ c < 0) (h1 : ¬ 65535 < c) : pairCh (lo8 c) (hi8 c) = c := by
  rw [Int32.lt_iff_toInt_lt] at h0 h1
  have e0 : (0 : Int32).toInt = 0 := rfl
  have e1 : (65535 : Int32).toInt = 65535 := rfl
  have hc : c.toInt = c.toBitVec.toNat := by
    have := c.toBitVec.isLt
    have e : c.toInt = c.toBitVec.toInt := rfl
    rw [e] at h0 h1
    rw [e]
    rw [BitVec.toInt_eq_toNat_cond] at h0 h1 ⊢
    split at h0 <;> split <;> omega
  have hn : c.toBitVec.toNat < 65536 := by omega
  have a1 := lo8_and c
  have a2 : (hi8 c &&& 255).toBitVec.toNat = c.toBitVec.toNat / 256 := by
    rw [hi8, lo8_and]
    have e : ((8 : Int32) &&& 31) = 8 := by decide
    rw [e, Int32.toBitVec_shiftRight]
    have e2 : ((8 : Int32).toBitVec.smod 32) = 8#32 := by decide
    rw [e2, BitVec.sshiftRight_eq', BitVec.toNat_sshiftRight_of_msb_false (by rw [BitVec.msb_eq_false_iff_two_mul_lt]; omega)]
    show c.toBitVec.toNat >>> 8 % 256 = _
    rw [Nat.shiftRight_eq_div_pow]
    omega
  unfold pairCh
  apply Int32.toBitVec_inj.mp
  apply BitVec.eq_of_toNat_eq
  have f0 : ((0 : Int32) &&& 31) = 0 := by decide
  have f8 : ((8 : Int32) &&& 31) = 8 := by decide
  rw [f0, f8]
  have g : (((lo8 c &&& 255) <<< (0 : Int32)) ||| ((hi8 c &&& 255) <<< (8 : Int32))).toBitVec.toNat = c.toBitVec.toNat := by
    rw [Int32.toBitVec_or, Int32.toBitVec_shiftLeft, Int32.toBitVec_shiftLeft]
    have s0 : ((0 : Int32).toBitVec.smod 32) = 0#32 := by decide
    have s8 : ((8 : Int32).toBitVec.smod 32) = 8#32 := by decide
    rw [s0, s8, BitVec.toNat_or]
    simp only [BitVec.shiftLeft_eq', BitVec.toNat_shiftLeft, a1, a2]
    show (c.toBitVec.toNat % 256) <<< 0 % 2 ^ 32 ||| (c.toBitVec.toNat / 256) <<< 8 % 2 ^ 32 = _
    rw [Nat.shiftLeft_zero, Nat.mod_eq_of_lt (show c.toBitVec.toNat % 256 < 2 ^ 32 by omega), Nat.mod_eq_of_lt (show (c.toBitVec.toNat / 256) <<< 8 < 2 ^ 32 by rw [Nat.shiftLeft_eq]; omega), Nat.or_comm, ← Nat.shiftLeft_add_eq_or_of_lt (by omega), Nat.shiftLeft_eq]
    omega
  show BitVec.toNat (((((lo8 c &&& 255) <<< (0 : Int32)) ||| ((hi8 c &&& 255) <<< (8 : Int32))).toBitVec.setWidth 16).setWidth 32) = _
  rw [BitVec.toNat_setWidth, BitVec.toNat_setWidth, g]
  omega
end StrChars
namespace StrChars
open Jvm Sem ClassFile Op Lib Jvm.Stand Jvm.Free.XT Jvm.Free.ALB Jvm.Free.JM Jvm.Free
open Jvm.Lib.Cold (StaticIs)
theorem shr1 {n : Nat} (h : 2 * n < 2 ^ 31) : Int32.ofNat (2 * n) >>> ((1 : Int32) &&& 31) = Int32.ofNat n := by
  have e : ((1 : Int32) &&& 31) = 1 := by decide
  rw [e]
  apply Int32.toBitVec_inj.mp
  rw [Int32.toBitVec_shiftRight]
  have e1 : ((1 : Int32).toBitVec.smod 32) = 1#32 := by decide
  have hm : (BitVec.ofNat 32 (2 * n)).toNat = 2 * n := by rw [BitVec.toNat_ofNat, Nat.mod_eq_of_lt (by omega)]
  rw [e1, BitVec.sshiftRight_eq']
  apply BitVec.eq_of_toNat_eq
  show ((BitVec.ofNat 32 (2 * n)).sshiftRight 1).toNat = (BitVec.ofNat 32 n).toNat
  rw [BitVec.toNat_sshiftRight_of_msb_false (by rw [BitVec.msb_eq_false_iff_two_mul_lt, hm]; omega), hm, BitVec.toNat_ofNat, Nat.shiftRight_eq_div_pow]
  omega
/-- charAt's cast of a byte read back -/
def chr8 (u : Int32) : Int32 := (u &&& 255).toUInt32.toUInt16.toUInt32.toInt32
theorem chr8_lo8 {c : Int32} (h0 : ¬ c < 0) (h1 : ¬ 255 < c) : chr8 (lo8 c) = c := by
  have t : ∀ k : Fin 256, (Int32.ofNat k.val).toUInt32.toUInt16.toUInt32.toInt32 = Int32.ofNat k.val := by decide +kernel
  unfold chr8
  rw [lo8_mask h0 h1]
  rw [Int32.lt_iff_toInt_lt] at h0 h1
  have e0 : (0 : Int32).toInt = 0 := rfl
  have e1 : (255 : Int32).toInt = 255 := rfl
  obtain ⟨k, hk⟩ : ∃ k : Nat, c.toInt = k := ⟨c.toInt.toNat, by omega⟩
  have hx : c = Int32.ofNat k := Int32.toInt_inj.mp (by rw [hk, Int32.toInt_ofNat_small (by omega)])
  rw [hx]
  exact t ⟨k, by omega⟩
theorem narrow_ch {c : Int32} (h0 : ¬ c < 0) (h1 : ¬ 65535 < c) : narrow .char (.int c) = .int c := by
  have q : narrow .char (.int (pairCh (lo8 c) (hi8 c))) = .int (pairCh (lo8 c) (hi8 c)) := narrow_c _
  rwa [pair_says h0 h1] at q
/-- the array's cell V codes the n chars f 0 .. f (n - 1) by the coder cd, as the JDK does: coder 1 just where some char is above 255 -/
def Cod (cd : Int32) (n : Nat) (f : Nat → Int32) (V : Cell) : Prop := (cd = 0 ∧ V.slots.size = n ∧ ∀ j, j < n → V.slots[j]? = some (.int (lo8 (f j))) ∧ ¬ 255 < f j) ∨ (cd = 1 ∧ V.slots.size = 2 * n ∧ (∀ j, j < n → V.slots[2 * j]? = some (.int (lo8 (f j))) ∧ V.slots[2 * j + 1]? = some (.int (hi8 (f j)))) ∧ ∃ j, j < n ∧ 255 < f j)
theorem Cod.cd {cd : Int32} {n : Nat} {f : Nat → Int32} {V : Cell} (h : Cod cd n f V) : cd = 0 ∨ cd = 1 := h.imp (fun q => q.1) fun q => q.1
theorem Cod.len {cd : Int32} {n : Nat} {f : Nat → Int32} {V : Cell} (h : Cod cd n f V) (hs : V.slots.size < 2 ^ 31) : Int32.ofNat V.slots.size >>> (cd &&& 31) = Int32.ofNat n := by
  rcases h with ⟨rfl, h, -⟩ | ⟨rfl, h, -⟩
  · rw [shr0, h]
  · rw [h, shr1 (by omega)]
/-- **x is a String of the n chars f 0 .. f (n - 1)**, Latin-1 or UTF-16; its array at t has the cell V -/
def Txt (x t : Addr) (V : Cell) (cd : Int32) (n : Nat) (f : Nat → Int32) (U : State) : Prop := Exact "java/lang/String" x U ∧ Has x "java/lang/String" "value" "[B" (.ref t) U ∧ Has x "java/lang/String" "coder" "B" (.int cd) U ∧ XT.Arr .byte t V U ∧ Cod cd n f V ∧ ∀ j, j < n → ¬ f j < 0 ∧ ¬ 65535 < f j
theorem Txt.mv {x t : Addr} {V : Cell} {cd : Int32} {n : Nat} {f : Nat → Int32} {U U' : State} (h : Txt x t V cd n f U) (hal : U.vm.Alike U'.vm) (hh : U'.heap = U.heap) : Txt x t V cd n f U' := ⟨h.1.mv hal hh, h.2.1.mv hal hh, h.2.2.1.mv hal hh, h.2.2.2.1.mv hal hh, h.2.2.2.2⟩
namespace Cdr
def yN : MethodName := ⟨"java/lang/String", "coder", "()B"⟩
abbrev yB : ByteArray := jdk_42_method_152_code
theorem d0 : decode yB 0 = .ok (.getstatic 38, 3) := by decide +kernel
theorem d3 : decode yB 3 = .ok (.ifCond (.eq) 10, 3) := by decide +kernel
theorem d6 : decode yB 6 = .ok (.aload_n 0, 1) := by decide +kernel
theorem d7 : decode yB 7 = .ok (.getfield 15, 3) := by decide +kernel
theorem d10 : decode yB 10 = .ok (.goto 4, 3) := by decide +kernel
theorem d14 : decode yB 14 = .ok (.ireturn, 1) := by decide +kernel
def site : List Cond := [.fieldLink "java/lang/String" 38 "java/lang/String" "COMPACT_STRINGS" "Z", .fieldLink "java/lang/String" 15 "java/lang/String" "coder" "B"]
def tab : Cond := tabOf yN yB 1 (some .byte) site
def P (x : Addr) (cd z : Int32) (args : Array Value) (s : State) : Prop := args = #[.ref x] ∧ Has x "java/lang/String" "coder" "B" (.int cd) s ∧ (cd = 0 ∨ cd = 1) ∧ StaticIs s "java/lang/String" "COMPACT_STRINGS" "Z" (.int z) ∧ ¬ z = 0
def E (cd : Int32) (r : Option Value) (s u : State) : Prop := XT.PureE (some (.int cd)) r s u
theorem law (l : Launch) (x : Addr) (cd z : Int32) : Law l yN 1 0 0 0 yB 1 (some .byte) site (P x cd z) (E cd) [] 0 0 := by
  refine Law.of_walk (plainFor_of_name (by decide +kernel)) (by decide +kernel) (by decide +kernel) (by decide) (fun _ _ h => by rw [h.1]; rfl) (fun _ U U' hal hh h => ⟨h.1, h.2.1.mv hal hh, h.2.2.1, h.2.2.2.1.there hal hh, h.2.2.2.2⟩) (fun r U U' V V' h1 hal h2 h => XT.PureE.mv r U U' V V' h1 hal h2 h) ?_
  intro p e s m args below meth c s₁ X0 hexec hbytes hml hret hlk hnm hown hh0 W hP
  obtain ⟨rfl, hx, hc, s1, hz⟩ := hP
  have c1 : Steps p.tables e below (s₁.setTop (entryFrame m #[.ref x] 1)) (s₁.setTop (mkF m 0 #[.val (.ref x)] [])) := entry rfl
  obtain ⟨T2, X2, q2, st2⟩ := X0.sget hexec hown (wk W (.fieldLink "java/lang/String" 38 "java/lang/String" "COMPACT_STRINGS" "Z")) s1 (fun _ _ h => by rw [hh0]; exact h) (g := (mkF m 0 #[.val (.ref x)] [])) rfl (hb hbytes d0)
  have hh2 := q2.trans hh0
  have c3 : Steps p.tables e below (s₁.setTop (entryFrame m #[.ref x] 1)) (T2.setTop (mkF m 7 #[.val (.ref x)] [.ref x])) := (c1.trans (st2 _ (Steps.refl _))).trans (by
    refine XS.ifNo X2.here hexec rfl (hb hbytes d3) rfl (i0_eq_f hz) ?_
    refine XS.aloadN X2.here hexec rfl (hb hbytes d6) rfl rfl ?_
    exact Steps.refl _)
  obtain ⟨T4, X4, q4, st4⟩ := X2.hget hexec hown (wk W (.fieldLink "java/lang/String" 15 "java/lang/String" "coder" "B")) (hx.mv X2.warmed.alike hh2) (g := (mkF m 7 #[.val (.ref x)] [.ref x])) rfl (rest := []) rfl (hb hbytes d7)
  have c5 : Steps p.tables e below (s₁.setTop (entryFrame m #[.ref x] 1)) (T4.setTop (mkF m 14 #[.val (.ref x)] [.int cd])) := (c3.trans (st4 _ (Steps.refl _))).trans (by
    refine XS.goto X4.here hexec rfl (pc0 := 10) rfl (hb hbytes d10) (by decide) rfl ?_
    exact Steps.refl _)
  exact ⟨T4, some (.int cd), _, _, _, X4, rfl, rfl, rfl, (fun h => by cases h), ⟨rfl, q4.trans hh2⟩, fun fs hl => c5.trans (X4.ireturnOut hexec hret (by rcases hc with rfl | rfl <;> rfl) (Or.inr (Or.inr (Or.inl rfl))) (hb hbytes d14) hl)⟩
end Cdr
namespace Len
def yN : MethodName := ⟨"java/lang/String", "length", "()I"⟩
abbrev yB : ByteArray := jdk_42_method_54_code
theorem d0 : decode yB 0 = .ok (.aload_n 0, 1) := by decide +kernel
theorem d1 : decode yB 1 = .ok (.getfield 9, 3) := by decide +kernel
theorem d4 : decode yB 4 = .ok (.arraylength, 1) := by decide +kernel
theorem d5 : decode yB 5 = .ok (.aload_n 0, 1) := by decide +kernel
theorem d6 : decode yB 6 = .ok (.invokevirtual 335, 3) := by decide +kernel
theorem d9 : decode yB 9 = .ok (.ishr, 1) := by decide +kernel
theorem d10 : decode yB 10 = .ok (.ireturn, 1) := by decide +kernel
def site : List Cond := [.fieldLink "java/lang/String" 9 "java/lang/String" "value" "[B", Cdr.tab] ++ virtW "java/lang/String" 335 "java/lang/String" Cdr.yN Cdr.yN
def tab : Cond := tabOf yN yB 1 (some .int) site
def P (x t : Addr) (V : Cell) (cd : Int32) (n : Nat) (f : Nat → Int32) (z : Int32) (args : Array Value) (s : State) : Prop := args = #[.ref x] ∧ Txt x t V cd n f s ∧ StaticIs s "java/lang/String" "COMPACT_STRINGS" "Z" (.int z) ∧ ¬ z = 0
def E (n : Nat) (r : Option Value) (s u : State) : Prop := XT.PureE (some (.int (Int32.ofNat n))) r s u
/-- length() of a String of n chars, in either coding -/
theorem law (l : Launch) (x t : Addr) (V : Cell) (cd : Int32) (n : Nat) (f : Nat → Int32) (z : Int32) : Law l yN 1 0 1 13 yB 1 (some .int) site (P x t V cd n f z) (E n) [] 0 0 := by
  refine Law.of_walk (plainFor_of_name (by decide +kernel)) (by decide +kernel) (by decide +kernel) (by decide) (fun _ _ h => by rw [h.1]; rfl) (fun _ U U' hal hh h => ⟨h.1, h.2.1.mv hal hh, h.2.2.1.there hal hh, h.2.2.2⟩) (fun r U U' V V' h1 hal h2 h => XT.PureE.mv r U U' V V' h1 hal h2 h) ?_
  intro p e s m args below meth c s₁ X0 hexec hbytes hml hret hlk hnm hown hh0 W hP
  obtain ⟨rfl, hx, s1, hz⟩ := hP
  have v31 := hx.2.2.2.1.2.2.2
  have c1 : Steps p.tables e below (s₁.setTop (entryFrame m #[.ref x] 1)) (s₁.setTop (mkF m 1 #[.val (.ref x)] [.ref x])) := Steps.trans (entry rfl) (by
    show Steps p.tables e below (s₁.setTop (mkF m 0 #[.val (.ref x)] [])) _
    refine XS.aloadN X0.here hexec rfl (hb hbytes d0) rfl rfl ?_
    exact Steps.refl _)
  obtain ⟨T2, X2, q2, st2⟩ := X0.hget hexec hown (wk W (.fieldLink "java/lang/String" 9 "java/lang/String" "value" "[B")) (hx.mv X0.warmed.alike hh0).2.1 (g := (mkF m 1 #[.val (.ref x)] [.ref x])) rfl (rest := []) rfl (hb hbytes d1)
  have hh2 := q2.trans hh0
  have hx2 := hx.mv X2.warmed.alike hh2
  have c3 : Steps p.tables e below (s₁.setTop (entryFrame m #[.ref x] 1)) (T2.setTop (mkF m 6 #[.val (.ref x)] [.ref x, .int (Int32.ofNat V.slots.size)])) := (c1.trans (st2 _ (Steps.refl _))).trans (by
    refine X2.alen hexec hx2.2.2.2.1 rfl rfl (hb hbytes d4) ?_
    refine XS.aloadN X2.here hexec rfl (hb hbytes d5) rfl rfl ?_
    exact Steps.refl _)
  obtain ⟨v4, T4, X4, E4, g4⟩ := X2.callV hexec (Cdr.law l x cd z) hown (wks W (virtW "java/lang/String" 335 "java/lang/String" Cdr.yN Cdr.yN)) rfl (by decide) (wk W Cdr.tab) (W := 1) (Nat.le_of_ble_eq_true rfl) (Nat.le_of_ble_eq_true rfl) (Nat.le_refl _) (Nat.le_refl _) (hx2.1.fc X2.warmed.alike) hx2.1.is (g := (mkF m 6 #[.val (.ref x)] [.ref x, .int (Int32.ofNat V.slots.size)])) rfl (by rw [hml]; rfl) c3 (argsL := []) (rest := [.int (Int32.ofNat V.slots.size)]) rfl rfl (by show 2 * 0 + (1 + 0) ≤ _; decide) (hb hbytes d6) (⟨rfl, hx2.2.2.1, hx.2.2.2.2.1.cd, s1.there X2.warmed.alike hh2, hz⟩)
  obtain ⟨rfl, q4⟩ := E4
  have c5 : Steps p.tables e below (s₁.setTop (entryFrame m #[.ref x] 1)) (T4.setTop (mkF m 10 #[.val (.ref x)] [.int (Int32.ofNat V.slots.size >>> (cd &&& 31))])) := Steps.trans g4 (by
    refine ishr X4.here hexec rfl (hb hbytes d9) rfl ?_
    exact Steps.refl _)
  rw [hx.2.2.2.2.1.len v31] at c5
  exact ⟨T4, some (.int (Int32.ofNat n)), _, _, _, X4, rfl, rfl, rfl, (fun h => by cases h), ⟨rfl, q4.trans hh2⟩, fun fs hl => c5.trans (X4.ireturnOut hexec hret rfl (Or.inl rfl) (hb hbytes d10) hl)⟩
theorem pays {l : Launch} {R : Room} {p : Program} {e : Env} {below : List Frame} {s : State} {sargs : Array Value} {len W : Nat} (x t : Addr) (V : Cell) (cd : Int32) (n : Nat) (f : Nat → Int32) (z : Int32) (htab : tab.before sargs s = true) (hfr : 2 ≤ R.frames) (hlo : W + 25 ≤ R.locals) :
    Back l R p e below s sargs yN len W (fun A₁ a₁ => A₁.cells + 0 ≤ R.cells ∧ A₁.slots + 0 ≤ R.slots ∧ P x t V cd n f z a₁ A₁.U) (fun A₁ _ v₁ B₁ => E n v₁ A₁.U B₁.U ∧ B₁.locs = A₁.locs ++ [] ∧ B₁.cells = A₁.cells + 0 ∧ B₁.slots = A₁.slots + 0) :=
  (law l x t V cd n f z).pays htab hfr (by omega)
end Len
namespace IsL
def yN : MethodName := ⟨"java/lang/String", "isLatin1", "()Z"⟩
abbrev yB : ByteArray := jdk_42_method_154_code
theorem d0 : decode yB 0 = .ok (.getstatic 38, 3) := by decide +kernel
theorem d3 : decode yB 3 = .ok (.ifCond (.eq) 14, 3) := by decide +kernel
theorem d6 : decode yB 6 = .ok (.aload_n 0, 1) := by decide +kernel
theorem d7 : decode yB 7 = .ok (.getfield 15, 3) := by decide +kernel
theorem d10 : decode yB 10 = .ok (.ifCond (.ne) 7, 3) := by decide +kernel
theorem d13 : decode yB 13 = .ok (.iconst 1, 1) := by decide +kernel
theorem d14 : decode yB 14 = .ok (.goto 4, 3) := by decide +kernel
theorem d17 : decode yB 17 = .ok (.iconst 0, 1) := by decide +kernel
theorem d18 : decode yB 18 = .ok (.ireturn, 1) := by decide +kernel
def site : List Cond := [.fieldLink "java/lang/String" 38 "java/lang/String" "COMPACT_STRINGS" "Z", .fieldLink "java/lang/String" 15 "java/lang/String" "coder" "B"]
def tab : Cond := tabOf yN yB 1 (some .boolean) site
def P (x : Addr) (cd z : Int32) (args : Array Value) (s : State) : Prop := args = #[.ref x] ∧ Has x "java/lang/String" "coder" "B" (.int cd) s ∧ (cd = 0 ∨ cd = 1) ∧ StaticIs s "java/lang/String" "COMPACT_STRINGS" "Z" (.int z) ∧ ¬ z = 0
def E (cd : Int32) (r : Option Value) (s u : State) : Prop := XT.PureE (some (.int (1 - cd))) r s u
theorem law (l : Launch) (x : Addr) (cd z : Int32) : Law l yN 1 0 0 0 yB 1 (some .boolean) site (P x cd z) (E cd) [] 0 0 := by
  refine Law.of_walk (plainFor_of_name (by decide +kernel)) (by decide +kernel) (by decide +kernel) (by decide) (fun _ _ h => by rw [h.1]; rfl) (fun _ U U' hal hh h => ⟨h.1, h.2.1.mv hal hh, h.2.2.1, h.2.2.2.1.there hal hh, h.2.2.2.2⟩) (fun r U U' V V' h1 hal h2 h => XT.PureE.mv r U U' V V' h1 hal h2 h) ?_
  intro p e s m args below meth c s₁ X0 hexec hbytes hml hret hlk hnm hown hh0 W hP
  obtain ⟨rfl, hx, hc, s1, hz⟩ := hP
  have c1 : Steps p.tables e below (s₁.setTop (entryFrame m #[.ref x] 1)) (s₁.setTop (mkF m 0 #[.val (.ref x)] [])) := entry rfl
  obtain ⟨T2, X2, q2, st2⟩ := X0.sget hexec hown (wk W (.fieldLink "java/lang/String" 38 "java/lang/String" "COMPACT_STRINGS" "Z")) s1 (fun _ _ h => by rw [hh0]; exact h) (g := (mkF m 0 #[.val (.ref x)] [])) rfl (hb hbytes d0)
  have hh2 := q2.trans hh0
  have c3 : Steps p.tables e below (s₁.setTop (entryFrame m #[.ref x] 1)) (T2.setTop (mkF m 7 #[.val (.ref x)] [.ref x])) := (c1.trans (st2 _ (Steps.refl _))).trans (by
    refine XS.ifNo X2.here hexec rfl (hb hbytes d3) rfl (i0_eq_f hz) ?_
    refine XS.aloadN X2.here hexec rfl (hb hbytes d6) rfl rfl ?_
    exact Steps.refl _)
  obtain ⟨T4, X4, q4, st4⟩ := X2.hget hexec hown (wk W (.fieldLink "java/lang/String" 15 "java/lang/String" "coder" "B")) (hx.mv X2.warmed.alike hh2) (g := (mkF m 7 #[.val (.ref x)] [.ref x])) rfl (rest := []) rfl (hb hbytes d7)
  have c5 : Steps p.tables e below (s₁.setTop (entryFrame m #[.ref x] 1)) (T4.setTop (mkF m 10 #[.val (.ref x)] [.int cd])) := c3.trans (st4 _ (Steps.refl _))
  have c6 : Steps p.tables e below (s₁.setTop (entryFrame m #[.ref x] 1)) (T4.setTop (mkF m 18 #[.val (.ref x)] [.int (1 - cd)])) := by
    rcases hc with rfl | rfl
    · exact c5.trans (by
        refine XS.ifNo X4.here hexec rfl (hb hbytes d10) rfl (i0_ne_f rfl) ?_
        refine iconstV X4.here hexec rfl 1 (hb hbytes d13) (by decide) ?_
        refine XS.goto X4.here hexec rfl (pc0 := 14) rfl (hb hbytes d14) (by decide) rfl ?_
        exact Steps.refl _)
    · exact c5.trans (by
        refine XS.ifYes X4.here hexec rfl (pc0 := 10) rfl (hb hbytes d10) rfl (i0_ne_t (by decide)) (by decide) rfl ?_
        refine iconstV X4.here hexec rfl 0 (hb hbytes d17) (by decide) ?_
        exact Steps.refl _)
  exact ⟨T4, some (.int (1 - cd)), _, _, _, X4, rfl, rfl, rfl, (fun h => by cases h), ⟨rfl, q4.trans hh2⟩, fun fs hl => c6.trans (X4.ireturnOut hexec hret (by rcases hc with rfl | rfl <;> rfl) (Or.inr (Or.inl rfl)) (hb hbytes d18) hl)⟩
end IsL
namespace LChA
def yN : MethodName := ⟨"java/lang/StringLatin1", "charAt", "([BI)C"⟩
abbrev yB : ByteArray := jdk_43_method_2_code
theorem d0 : decode yB 0 = .ok (.iload_n 1, 1) := by decide +kernel
theorem d1 : decode yB 1 = .ok (.aload_n 0, 1) := by decide +kernel
theorem d2 : decode yB 2 = .ok (.arraylength, 1) := by decide +kernel
theorem d3 : decode yB 3 = .ok (.invokestatic 9, 3) := by decide +kernel
theorem d6 : decode yB 6 = .ok (.aload_n 0, 1) := by decide +kernel
theorem d7 : decode yB 7 = .ok (.iload_n 1, 1) := by decide +kernel
theorem d8 : decode yB 8 = .ok (.baload, 1) := by decide +kernel
theorem d9 : decode yB 9 = .ok (.sipush 255, 3) := by decide +kernel
theorem d12 : decode yB 12 = .ok (.iand, 1) := by decide +kernel
theorem d13 : decode yB 13 = .ok (.i2c, 1) := by decide +kernel
theorem d14 : decode yB 14 = .ok (.ireturn, 1) := by decide +kernel
def site : List Cond := [JO.Str_checkIndex.tab] ++ staticW "java/lang/StringLatin1" 9 JO.Str_checkIndex.yN
def tab : Cond := tabOf yN yB 2 (some .char) site
def P (t : Addr) (V : Cell) (i : Nat) (u : Int32) (fm : Value) (args : Array Value) (s : State) : Prop := args = #[.ref t, .int (Int32.ofNat i)] ∧ XT.Arr .byte t V s ∧ V.slots[i]? = some (.int u) ∧ (StaticIs s "jdk/internal/util/Preconditions" "SIOOBE_FORMATTER" "Ljava/util/function/BiFunction;" fm ∧ fm.isRef = true)
def E (u : Int32) (r : Option Value) (s w : State) : Prop := XT.PureE (some (.int (chr8 u))) r s w
theorem law (l : Launch) (t : Addr) (V : Cell) (i : Nat) (u : Int32) (fm : Value) : Law l yN 2 2 2 27 yB 2 (some .char) site (P t V i u fm) (E u) [] 0 0 := by
  refine Law.of_walk (plainFor_of_name (by decide +kernel)) (by decide +kernel) (by decide +kernel) (by decide) (fun _ _ h => by rw [h.1]; rfl) (fun _ U U' hal hh h => ⟨h.1, h.2.1.mv hal hh, h.2.2.1, h.2.2.2.1.there hal hh, h.2.2.2.2⟩) (fun r U U' V V' h1 hal h2 h => XT.PureE.mv r U U' V V' h1 hal h2 h) ?_
  intro p e s m args below meth c s₁ X0 hexec hbytes hml hret hlk hnm hown hh0 W hP
  obtain ⟨rfl, hV, hu, s1, rf⟩ := hP
  have v31 := hV.2.2.2
  have hi : i < V.slots.size := (Array.getElem?_eq_some_iff.mp hu).1
  have c1 : Steps p.tables e below (s₁.setTop (entryFrame m #[.ref t, .int (Int32.ofNat i)] 2)) (s₁.setTop (mkF m 0 #[.val (.ref t), .val (.int (Int32.ofNat i))] [])) := entry rfl
  have c2 : Steps p.tables e below (s₁.setTop (entryFrame m #[.ref t, .int (Int32.ofNat i)] 2)) (s₁.setTop (mkF m 3 #[.val (.ref t), .val (.int (Int32.ofNat i))] [.int (Int32.ofNat V.slots.size), .int (Int32.ofNat i)])) := c1.trans (by
    refine XS.iloadN X0.here hexec rfl (hb hbytes d0) rfl ?_
    refine XS.aloadN X0.here hexec rfl (hb hbytes d1) rfl rfl ?_
    refine X0.alen hexec (hV.mv X0.warmed.alike hh0) rfl rfl (hb hbytes d2) ?_
    exact Steps.refl _)
  obtain ⟨v3, T3, X3, E3, g3⟩ := X0.callS hexec (JO.Str_checkIndex.law l (Int32.ofNat i) (Int32.ofNat V.slots.size) fm) hown (wks W (staticW "java/lang/StringLatin1" 9 JO.Str_checkIndex.yN)) (wk W JO.Str_checkIndex.tab) (W := 0) (Nat.le_of_ble_eq_true rfl) (Nat.le_of_ble_eq_true rfl) (Nat.le_refl _) (Nat.le_refl _) (g := (mkF m 3 #[.val (.ref t), .val (.int (Int32.ofNat i))] [.int (Int32.ofNat V.slots.size), .int (Int32.ofNat i)])) rfl (by rw [hml]; rfl) c2 (argsL := [.int (Int32.ofNat i), .int (Int32.ofNat V.slots.size)]) (rest := []) rfl rfl (by show 2 * 0 + 0 ≤ _; decide) (hb hbytes d3) (⟨rfl, rf, s1.there X0.warmed.alike hh0, Int32.ofNat_not_neg (by omega), lt32 v31 hi⟩)
  obtain ⟨rfl, q3⟩ := E3
  have hh3 := q3.trans hh0
  have c4 : Steps p.tables e below (s₁.setTop (entryFrame m #[.ref t, .int (Int32.ofNat i)] 2)) (T3.setTop (mkF m 14 #[.val (.ref t), .val (.int (Int32.ofNat i))] [.int (chr8 u)])) := Steps.trans g3 (by
    refine XS.aloadN X3.here hexec rfl (hb hbytes d6) rfl rfl ?_
    refine XS.iloadN X3.here hexec rfl (hb hbytes d7) rfl ?_
    refine X3.aget hexec (hV.mv X3.warmed.alike hh3) rfl hu rfl rfl (hb hbytes d8) ?_
    refine sipushV X3.here hexec rfl 255 (hb hbytes d9) (by decide) ?_
    refine XS.iand X3.here hexec rfl (hb hbytes d12) rfl ?_
    refine i2c X3.here hexec rfl (hb hbytes d13) rfl ?_
    exact Steps.refl _)
  exact ⟨T3, some (.int (chr8 u)), _, _, _, X3, rfl, rfl, rfl, (fun h => by cases h), ⟨rfl, hh3⟩, fun fs hl => c4.trans (X3.ireturnOut hexec hret (narrow_c _) (Or.inr (Or.inr (Or.inr (Or.inl rfl)))) (hb hbytes d14) hl)⟩
end LChA
end StrChars
namespace StrChars.Road
open Jvm Sem ClassFile Op Lib Jvm.Stand Jvm.Free Jvm.Free.XT
open Jvm.Lib.Cold (StaticIs)
theorem consq {a : Array Value} {s : State} {c : Jvm.Cond} {L : List Jvm.Cond} (h0 : c.before a s = true) (h : ∀ w ∈ L, w.before a s = true) : ∀ w ∈ c :: L, w.before a s = true := fun w hw => (List.mem_cons.mp hw).elim (fun e => e ▸ h0) (h w)
/-- the words of String.length(), either coding -/
abbrev wordsLen : List Jvm.Cond := [.code Len.yN Len.yB 1 (some .int), .initialized ST, .fieldLink ST 9 ST "value" "[B", .fieldLink ST 38 ST "COMPACT_STRINGS" "Z", .fieldLink ST 15 ST "coder" "B", .code Cdr.yN Cdr.yB 1 (some .byte), .methodLink ST 335 Cdr.yN, .declares Cdr.yN, .selects ST Cdr.yN Cdr.yN, .instanceMethod Cdr.yN]
theorem tabLen_of {a : Array Value} {s : State} (h : ∀ w ∈ wordsLen, w.before a s = true) : Len.tab.before a s = true := by
  have hc : Cdr.tab.before a s = true := unparts (wk h (.code Cdr.yN Cdr.yB 1 (some .byte))) (wks h (.initialized Cdr.yN.cls :: Cdr.site))
  have q := consq hc h
  exact unparts (wk q (.code Len.yN Len.yB 1 (some .int))) (wks q (.initialized Len.yN.cls :: Len.site))
theorem movedLen {Z s : State} {a0 args : Array Value} (hZ : Z.Warmed39 s.vm) (hw : ∀ d ∈ wordsLen, d.before a0 Z = true) : ∀ d ∈ wordsLen, d.before args s = true := fun d hd => by
  have q := hw d hd
  have t : ∀ d ∈ wordsLen, d = .arrayClass .byte ∨ (d.onTables && d.keepsFace) = true := by decide +kernel
  rcases t d hd with rfl | t
  · exact RoadKit.mvA hZ q
  · exact RoadKit.mv hZ q t
/-- the bytes of the chars cs, low before high -/
def wideBytes : List Int32 → List Value
  | [] => []
  | c :: cs => .int (lo8 c) :: .int (hi8 c) :: wideBytes cs
theorem wide_lo (d : Value) : ∀ (cs : List Int32) (j : Nat), j < cs.length → (wideBytes cs).getD (2 * j) d = .int (lo8 (cs.getD j 0))
  | [], j, h => absurd h (Nat.not_lt_zero j)
  | c :: cs, 0, _ => rfl
  | c :: cs, j + 1, h => by
    have q := wide_lo d cs j (by simpa using h)
    rw [show 2 * (j + 1) = 2 * j + 1 + 1 from by omega]
    simpa [wideBytes] using q
theorem wide_hi (d : Value) : ∀ (cs : List Int32) (j : Nat), j < cs.length → (wideBytes cs).getD (2 * j + 1) d = .int (hi8 (cs.getD j 0))
  | [], j, h => absurd h (Nat.not_lt_zero j)
  | c :: cs, 0, _ => rfl
  | c :: cs, j + 1, h => by
    have q := wide_hi d cs j (by simpa using h)
    rw [show 2 * (j + 1) + 1 = 2 * j + 1 + 1 + 1 from by omega]
    simpa [wideBytes] using q
theorem low_at (d : Value) (cs : List Int32) (j : Nat) (h : j < cs.length) : (cs.map fun c => Value.int (lo8 c)).getD j d = .int (lo8 (cs.getD j 0)) := by
  simp [List.getD_eq_getElem?_getD, h]
/-- an array of N2 bytes vs codes the chars cs by the coder cd -/
def CodA (cs : List Int32) (cd N2 : Int32) (vs : List Value) : Prop := (cd = 0 ∧ N2 = Int32.ofNat cs.length ∧ vs = (cs.map fun c => Value.int (lo8 c)) ∧ ∀ c ∈ cs, ¬ 255 < c) ∨ (cd = 1 ∧ N2 = Int32.ofNat (2 * cs.length) ∧ vs = wideBytes cs ∧ ∃ c ∈ cs, 255 < c)
theorem CodA.cod {cs : List Int32} {cd N2 : Int32} {vs : List Value} {V : Cell} (h : CodA cs cd N2 vs) (hn : 2 * cs.length < 2 ^ 31) (hs : V.slots.size = N2.toNatClampNeg) (hv : RoadKit.Has V vs (.int 0)) : Cod cd cs.length (fun j => cs.getD j 0) V := by
  rcases h with ⟨rfl, rfl, rfl, h⟩ | ⟨rfl, rfl, rfl, c, hc, hw⟩
  · rw [n32 (by omega)] at hs
    exact Or.inl ⟨rfl, hs, fun j hj => ⟨by rw [hv j (by omega), low_at _ _ _ hj], by
      have e : cs.getD j 0 = cs[j] := by simp [List.getD_eq_getElem?_getD, hj]
      show ¬ 255 < cs.getD j 0
      rw [e]; exact h _ (List.getElem_mem _)⟩⟩
  · rw [n32 (by omega)] at hs
    obtain ⟨j, hj, rfl⟩ := List.getElem_of_mem hc
    exact Or.inr ⟨rfl, hs, fun j hj => ⟨by rw [hv _ (by omega), wide_lo _ _ _ hj], by rw [hv _ (by omega), wide_hi _ _ _ hj]⟩, j, hj, by
      have e : cs.getD j 0 = cs[j] := by simp [List.getD_eq_getElem?_getD, hj]
      show 255 < cs.getD j 0
      rw [e]; exact hw⟩
/-- an object of exactly java/lang/String, its two fields found: as the laws ask it -/
theorem strObj {Z U : State} {a0 : Array Value} {kI : Nat} (wi : (Jvm.Cond.instantiable ST kI).before a0 Z = true) (al : Z.vm.Alike U.vm) {x : Addr} {v0 c0 : Value} (E : RoadKit.Exa Z U.heap x ST) (V : RoadKit.Fld Z U.heap x ST "value" "[B" v0) (C : RoadKit.Fld Z U.heap x ST "coder" "B" c0) :
    ∃ (D : Cell) (fV fC : Field), Blank ST x D U ∧ Found ST "value" "[B" fV U ∧ Found ST "coder" "B" fC U ∧ D.slots[fV.slot]? = some v0 ∧ D.slots[fC.slot]? = some c0 ∧ RoadKit.slotOf Z ST "value" "[B" = fV.slot ∧ RoadKit.slotOf Z ST "coder" "B" = fC.slot := by
  obtain ⟨D, cfV, kV, iV, fV, hD, gV, stV, knV, obV, asV, slV⟩ := V
  obtain ⟨D', cfC, kC, iC, fC, hD', gC, stC, -, -, asC, slC⟩ := C
  cases hD.symm.trans hD'
  obtain ⟨D2, kD, e1, e2, e3, e4, e5⟩ := E
  cases hD.symm.trans e1
  obtain ⟨c2, k2, i1, i2, i3, -⟩ := Cond.instantiable_spec wi
  cases e2.symm.trans i1
  cases e3.symm.trans i2
  obtain ⟨kU, u1, u2⟩ := al.2.2 _ _ e3
  exact ⟨D, fV, fC, ⟨hD, ⟨knV, fun q hq => by rw [hq] at obV; cases obV⟩, by rw [al.findClass]; exact e2, kU, u1, by rw [u2]; exact i3, by rw [u2]; exact e5 i3⟩, ⟨SBG.found_only al ⟨cfV, kV, iV, gV⟩, stV⟩, ⟨SBG.found_only al ⟨cfC, kC, iC, gC⟩, stC⟩, slV, slC, by simp [RoadKit.slotOf, gV], by simp [RoadKit.slotOf, gC]⟩
theorem sta_is {Z U : State} (al : Z.vm.Alike U.vm) {C n d : String} {v : Value} (S : RoadKit.Sta Z U.heap C n d v) : StaticIs U C n d v := by
  obtain ⟨cfS, iS, kS, fS, st, cS, t1, t2, t3, t4, t5, t6, t7⟩ := S
  exact StaticIs.there (s := { Z with heap := U.heap }) ⟨cfS, iS, kS, fS, st, cS, t1, t2, t3, t4, t5, (fun q => by rw [q] at t6; cases t6), t7⟩ al rfl
/-- **length() OF SUCH A STRING** -/
theorem lenW {p : Program} {l : Launch} {e : Env} {R : Room} {s : State} {args : Array Value} {below : List Frame} {len W : Nat} {Z : State} {a0 : Array Value} {h : Heap} (hZ : Z.Warmed39 s.vm) (hw : ∀ d ∈ wordsLen, d.before a0 Z = true) {kI : Nat} (wi : (Jvm.Cond.instantiable ST kI).before a0 Z = true)
    {x t : Addr} {kb : ClassId} {cs : List Int32} {cd N2 z : Int32} {vs : List Value} (E : RoadKit.Exa Z h x ST) (V : RoadKit.Fld Z h x ST "value" "[B" (.ref t)) (C : RoadKit.Fld Z h x ST "coder" "B" (.int cd)) (K : RoadKit.Arv Z h t kb .byte N2 vs (.int 0)) (hc : CodA cs cd N2 vs) (hb : ∀ c ∈ cs, ¬ c < 0 ∧ ¬ (65535 : Int32) < c)
    (S : RoadKit.Sta Z h ST "COMPACT_STRINGS" "Z" (.int z)) (hz : ¬ z = 0) (l2 : cs.length ≤ 4000) (hfr : 2 ≤ R.frames) (hlo : W + 25 ≤ R.locals) :
    Back l R p e below s args (⟨"java/lang/String", "length", "()I"⟩ : MethodName) len W (fun P a => a = #[.ref x] ∧ P.U.heap = h ∧ P.cells + 0 ≤ R.cells ∧ P.slots + 0 ≤ R.slots)
      (fun P _ v B => ∃ L, (v = some (.int (Int32.ofNat cs.length)) ∧ L = [] ∧ B.U.heap = h) ∧ B.locs = P.locs ++ L ∧ B.cells = P.cells + 0 ∧ B.slots = P.slots + 0) := by
  obtain ⟨A, K1, K2, K3, K4, K5, K6⟩ := K
  have hcod := hc.cod (by omega) K3 K5
  intro m meth c P g ig mk a X hg hsize hdg hW hn hp'
  obtain ⟨rfl, rfl, r1, r2⟩ := hp'
  have al : Z.vm.Alike P.U.vm := hZ.alike.trans X.warmed.alike
  obtain ⟨D, fV, fC, hB, F1, F2, g1, g2, -, -⟩ := strObj wi al E V C
  have hx : Txt x t A cd cs.length (fun j => cs.getD j 0) P.U := ⟨⟨_, hB.2.2.1, D, hB.1, rfl, by cases q : D.vm <;> first | rfl | exact absurd q (hB.2.1.2 _)⟩, Has.of hB F1 g1, Has.of hB F2 g2, ⟨K1.1, State.isArrayOf_alike al K1.2.1, K1.2.2, by rcases hcod with ⟨-, q, -⟩ | ⟨-, q, -⟩ <;> omega⟩, hcod, fun j hj => by
    have e : cs.getD j 0 = cs[j] := by simp [List.getD_eq_getElem?_getD, hj]
    show ¬ cs.getD j 0 < 0 ∧ ¬ 65535 < cs.getD j 0
    rw [e]; exact hb _ (List.getElem_mem _)⟩
  obtain ⟨v, B, X', ⟨⟨hv, hh⟩, hl, hk, hs⟩, st⟩ := Len.pays x t A cd cs.length (fun j => cs.getD j 0) z (tabLen_of (movedLen hZ hw)) hfr hlo m meth c P g ig mk _ X hg hsize hdg hW hn ⟨r1, r2, rfl, hx, sta_is al S, hz⟩
  exact ⟨v, B, X', ⟨[], ⟨hv, rfl, hh⟩, hl, hk, hs⟩, st⟩
end StrChars.Road
namespace StrChars.Road
open Jvm Sem ClassFile Op Lib Jvm.Stand Jvm.Free Jvm.Free.XT
open Jvm.Lib.Cold (StaticIs)
/-- the road's facts of a String, as the laws ask it -/
theorem txt_of {Z U : State} {a0 : Array Value} {kI : Nat} (wi : (Jvm.Cond.instantiable ST kI).before a0 Z = true) (al : Z.vm.Alike U.vm) {x t : Addr} {kb : ClassId} {cs : List Int32} {cd N2 : Int32} {vs : List Value} (E : RoadKit.Exa Z U.heap x ST) (V : RoadKit.Fld Z U.heap x ST "value" "[B" (.ref t)) (C : RoadKit.Fld Z U.heap x ST "coder" "B" (.int cd)) (K : RoadKit.Arv Z U.heap t kb .byte N2 vs (.int 0)) (hc : CodA cs cd N2 vs) (hb : ∀ c ∈ cs, ¬ c < 0 ∧ ¬ (65535 : Int32) < c) (l2 : cs.length ≤ 4000) :
    ∃ A, Txt x t A cd cs.length (fun j => cs.getD j 0) U := by
  obtain ⟨A, K1, K2, K3, K4, K5, K6⟩ := K
  have hcod := hc.cod (by omega) K3 K5
  obtain ⟨D, fV, fC, hB, F1, F2, g1, g2, -, -⟩ := strObj wi al E V C
  exact ⟨A, ⟨_, hB.2.2.1, D, hB.1, rfl, by cases q : D.vm <;> first | rfl | exact absurd q (hB.2.1.2 _)⟩, Has.of hB F1 g1, Has.of hB F2 g2, ⟨K1.1, State.isArrayOf_alike al K1.2.1, K1.2.2, by rcases hcod with ⟨-, q, -⟩ | ⟨-, q, -⟩ <;> omega⟩, hcod, fun j hj => by
    have e : cs.getD j 0 = cs[j] := by simp [List.getD_eq_getElem?_getD, hj]
    show ¬ cs.getD j 0 < 0 ∧ ¬ 65535 < cs.getD j 0
    rw [e]; exact hb _ (List.getElem_mem _)⟩
end StrChars.Road
namespace StrChars
open Jvm Sem ClassFile Op Lib Jvm.Stand Jvm.Free.XT Jvm.Free.ALB Jvm.Free.JM Jvm.Free
open Jvm.Lib.Cold (StaticIs)
namespace ChN
def yN : MethodName := ⟨"java/lang/String", "charAt", "(I)C"⟩
abbrev yB : ByteArray := jdk_42_method_56_code
theorem d0 : decode yB 0 = .ok (.aload_n 0, 1) := by decide +kernel
theorem d1 : decode yB 1 = .ok (.invokevirtual 492, 3) := by decide +kernel
theorem d4 : decode yB 4 = .ok (.ifCond (.eq) 12, 3) := by decide +kernel
theorem d7 : decode yB 7 = .ok (.aload_n 0, 1) := by decide +kernel
theorem d8 : decode yB 8 = .ok (.getfield 9, 3) := by decide +kernel
theorem d11 : decode yB 11 = .ok (.iload_n 1, 1) := by decide +kernel
theorem d12 : decode yB 12 = .ok (.invokestatic 495, 3) := by decide +kernel
theorem d15 : decode yB 15 = .ok (.ireturn, 1) := by decide +kernel
def site : List Cond := [.fieldLink "java/lang/String" 9 "java/lang/String" "value" "[B", IsL.tab, LChA.tab] ++ virtW "java/lang/String" 492 "java/lang/String" IsL.yN IsL.yN ++ staticW "java/lang/String" 495 LChA.yN
def tab : Cond := tabOf yN yB 2 (some .char) site
def P (x t : Addr) (V : Cell) (n : Nat) (f : Nat → Int32) (z : Int32) (fm : Value) (i : Nat) (args : Array Value) (s : State) : Prop := args = #[.ref x, .int (Int32.ofNat i)] ∧ Txt x t V 0 n f s ∧ i < n ∧ StaticIs s "java/lang/String" "COMPACT_STRINGS" "Z" (.int z) ∧ ¬ z = 0 ∧ StaticIs s "jdk/internal/util/Preconditions" "SIOOBE_FORMATTER" "Ljava/util/function/BiFunction;" fm ∧ fm.isRef = true
def E (f : Nat → Int32) (i : Nat) (r : Option Value) (s u : State) : Prop := XT.PureE (some (.int (f i))) r s u
/-- charAt(i) of a Latin-1 String of n chars, i < n: f i -/
theorem law (l : Launch) (x t : Addr) (V : Cell) (n : Nat) (f : Nat → Int32) (z : Int32) (fm : Value) (i : Nat) : Law l yN 2 1 3 40 yB 2 (some .char) site (P x t V n f z fm i) (E f i) [] 0 0 := by
  refine Law.of_walk (plainFor_of_name (by decide +kernel)) (by decide +kernel) (by decide +kernel) (by decide) (fun _ _ h => by rw [h.1]; rfl) (fun _ U U' hal hh h => ⟨h.1, h.2.1.mv hal hh, h.2.2.1, h.2.2.2.1.there hal hh, h.2.2.2.2.1, h.2.2.2.2.2.1.there hal hh, h.2.2.2.2.2.2⟩) (fun r U U' V V' h1 hal h2 h => XT.PureE.mv r U U' V V' h1 hal h2 h) ?_
  intro p e s m args below meth c s₁ X0 hexec hbytes hml hret hlk hnm hown hh0 W hP
  obtain ⟨rfl, hx, hi, s1, hz, s3, rf⟩ := hP
  have v31 := hx.2.2.2.1.2.2.2
  have hr := hx.2.2.2.2.2 i hi
  have hx0 := hx.mv X0.warmed.alike hh0
  have c1 : Steps p.tables e below (s₁.setTop (entryFrame m #[.ref x, .int (Int32.ofNat i)] 2)) (s₁.setTop (mkF m 1 #[.val (.ref x), .val (.int (Int32.ofNat i))] [.ref x])) := Steps.trans (entry rfl) (by
    show Steps p.tables e below (s₁.setTop (mkF m 0 #[.val (.ref x), .val (.int (Int32.ofNat i))] [])) _
    refine XS.aloadN X0.here hexec rfl (hb hbytes d0) rfl rfl ?_
    exact Steps.refl _)
  obtain ⟨v2, T2, X2, E2, g2⟩ := X0.callV hexec (IsL.law l x 0 z) hown (wks W (virtW "java/lang/String" 492 "java/lang/String" IsL.yN IsL.yN)) rfl (by decide) (wk W IsL.tab) (W := 0) (Nat.le_of_ble_eq_true rfl) (Nat.le_of_ble_eq_true rfl) (Nat.le_refl _) (Nat.le_refl _) (hx0.1.fc X0.warmed.alike) hx0.1.is (g := (mkF m 1 #[.val (.ref x), .val (.int (Int32.ofNat i))] [.ref x])) rfl (by rw [hml]; rfl) c1 (argsL := []) (rest := []) rfl rfl (by show 2 * 0 + 0 ≤ _; decide) (hb hbytes d1) (⟨rfl, hx0.2.2.1, hx.2.2.2.2.1.cd, s1.there X0.warmed.alike hh0, hz⟩)
  obtain ⟨rfl, q2⟩ := E2
  have hh2 := q2.trans hh0
  have hx2 := hx.mv X2.warmed.alike hh2
  obtain ⟨-, k1, k2⟩ | ⟨k0, -⟩ := hx.2.2.2.2.1
  · have c3 : Steps p.tables e below (s₁.setTop (entryFrame m #[.ref x, .int (Int32.ofNat i)] 2)) (T2.setTop (mkF m 8 #[.val (.ref x), .val (.int (Int32.ofNat i))] [.ref x])) := Steps.trans g2 (by
      refine XS.ifNo X2.here hexec rfl (hb hbytes d4) rfl (i0_eq_f (by decide)) ?_
      refine XS.aloadN X2.here hexec rfl (hb hbytes d7) rfl rfl ?_
      exact Steps.refl _)
    obtain ⟨T4, X4, q4, st4⟩ := X2.hget hexec hown (wk W (.fieldLink "java/lang/String" 9 "java/lang/String" "value" "[B")) hx2.2.1 (g := (mkF m 8 #[.val (.ref x), .val (.int (Int32.ofNat i))] [.ref x])) rfl (rest := []) rfl (hb hbytes d8)
    have hh4 := q4.trans hh2
    have c5 : Steps p.tables e below (s₁.setTop (entryFrame m #[.ref x, .int (Int32.ofNat i)] 2)) (T4.setTop (mkF m 12 #[.val (.ref x), .val (.int (Int32.ofNat i))] [.int (Int32.ofNat i), .ref t])) := (c3.trans (st4 _ (Steps.refl _))).trans (by
      refine XS.iloadN X4.here hexec rfl (hb hbytes d11) rfl ?_
      exact Steps.refl _)
    obtain ⟨v6, T6, X6, E6, g6⟩ := X4.callS hexec (LChA.law l t V i (lo8 (f i)) fm) hown (wks W (staticW "java/lang/String" 495 LChA.yN)) (wk W LChA.tab) (W := 0) (Nat.le_of_ble_eq_true rfl) (Nat.le_of_ble_eq_true rfl) (Nat.le_refl _) (Nat.le_refl _) (g := (mkF m 12 #[.val (.ref x), .val (.int (Int32.ofNat i))] [.int (Int32.ofNat i), .ref t])) rfl (by rw [hml]; rfl) c5 (argsL := [.ref t, .int (Int32.ofNat i)]) (rest := []) rfl rfl (by show 2 * 0 + 0 ≤ _; decide) (hb hbytes d12) (⟨rfl, hx.2.2.2.1.mv X4.warmed.alike hh4, (k2 i hi).1, s3.there X4.warmed.alike hh4, rf⟩)
    obtain ⟨rfl, q6⟩ := E6
    rw [chr8_lo8 hr.1 (k2 i hi).2] at g6
    exact ⟨T6, some (.int (f i)), _, _, _, X6, rfl, rfl, rfl, (fun h => by cases h), ⟨rfl, q6.trans hh4⟩, fun fs hl => Steps.trans g6 (X6.ireturnOut hexec hret (narrow_ch hr.1 hr.2) (Or.inr (Or.inr (Or.inr (Or.inl rfl)))) (hb hbytes d15) hl)⟩
  · exact absurd k0 (by decide)
theorem pays {l : Launch} {R : Room} {p : Program} {e : Env} {below : List Frame} {s : State} {sargs : Array Value} {len W : Nat} (x t : Addr) (V : Cell) (n : Nat) (f : Nat → Int32) (z : Int32) (fm : Value) (i : Nat) (htab : tab.before sargs s = true) (hfr : 4 ≤ R.frames) (hlo : W + 53 ≤ R.locals) :
    Back l R p e below s sargs yN len W (fun A₁ a₁ => A₁.cells + 0 ≤ R.cells ∧ A₁.slots + 0 ≤ R.slots ∧ P x t V n f z fm i a₁ A₁.U) (fun A₁ _ v₁ B₁ => E f i v₁ A₁.U B₁.U ∧ B₁.locs = A₁.locs ++ [] ∧ B₁.cells = A₁.cells + 0 ∧ B₁.slots = A₁.slots + 0) :=
  (law l x t V n f z fm i).pays htab hfr (by omega)
end ChN
end StrChars
namespace StrChars.Road
open Jvm Sem ClassFile Op Lib Jvm.Stand Jvm.Free Jvm.Free.XT
open Jvm.Lib.Cold (StaticIs)
/-- the words of String.charAt(int), the Latin-1 road alone -/
abbrev wordsChN : List Jvm.Cond := [.code ChN.yN ChN.yB 2 (some .char), .initialized ST, .fieldLink ST 9 ST "value" "[B", .fieldLink ST 38 ST "COMPACT_STRINGS" "Z", .fieldLink ST 15 ST "coder" "B", .code IsL.yN IsL.yB 1 (some .boolean), .methodLink ST 492 IsL.yN, .declares IsL.yN, .selects ST IsL.yN IsL.yN, .instanceMethod IsL.yN,
  .methodLink ST 495 LChA.yN, .static LChA.yN, .code LChA.yN LChA.yB 2 (some .char), .initialized "java/lang/StringLatin1", .methodLink "java/lang/StringLatin1" 9 JO.Str_checkIndex.yN, .static JO.Str_checkIndex.yN, .code JO.Str_checkIndex.yN JO.Str_checkIndex.yB 2 none,
  .fieldLink ST 1053 "jdk/internal/util/Preconditions" "SIOOBE_FORMATTER" "Ljava/util/function/BiFunction;", .methodLink ST 1059 JC.PreCheck.yN, .static JC.PreCheck.yN, .code JC.PreCheck.yN JC.PreCheck.yB 3 (some .int), .initialized "jdk/internal/util/Preconditions"]
theorem tabChN_of {a : Array Value} {s : State} (h : ∀ w ∈ wordsChN, w.before a s = true) : ChN.tab.before a s = true := by
  have hp : JC.PreCheck.tab.before a s = true := unparts (wk h (.code JC.PreCheck.yN JC.PreCheck.yB 3 (some .int))) (wks h (.initialized JC.PreCheck.yN.cls :: JC.PreCheck.site))
  have qk := consq hp h
  have hk : JO.Str_checkIndex.tab.before a s = true := unparts (wk qk (.code JO.Str_checkIndex.yN JO.Str_checkIndex.yB 2 none)) (wks qk (.initialized JO.Str_checkIndex.yN.cls :: JO.Str_checkIndex.site))
  have ql := consq hk h
  have hl : LChA.tab.before a s = true := unparts (wk ql (.code LChA.yN LChA.yB 2 (some .char))) (wks ql (.initialized LChA.yN.cls :: LChA.site))
  have hi : IsL.tab.before a s = true := unparts (wk h (.code IsL.yN IsL.yB 1 (some .boolean))) (wks h (.initialized IsL.yN.cls :: IsL.site))
  have q := consq hi (consq hl h)
  exact unparts (wk q (.code ChN.yN ChN.yB 2 (some .char))) (wks q (.initialized ChN.yN.cls :: ChN.site))
theorem movedChN {Z s : State} {a0 args : Array Value} (hZ : Z.Warmed39 s.vm) (hw : ∀ d ∈ wordsChN, d.before a0 Z = true) : ∀ d ∈ wordsChN, d.before args s = true := fun d hd => by
  have t : ∀ d ∈ wordsChN, (d.onTables && d.keepsFace) = true := by decide +kernel
  exact RoadKit.mv hZ (hw d hd) (t d hd)
/-- **charAt(i) OF A LATIN-1 STRING**, i < n: the char -/
theorem chN {p : Program} {l : Launch} {e : Env} {R : Room} {s : State} {args : Array Value} {below : List Frame} {len W : Nat} {Z : State} {a0 : Array Value} {h : Heap} (hZ : Z.Warmed39 s.vm) (hw : ∀ d ∈ wordsChN, d.before a0 Z = true) {kI : Nat} (wi : (Jvm.Cond.instantiable ST kI).before a0 Z = true)
    {x t : Addr} {kb : ClassId} {cs : List Int32} {N2 z : Int32} {vs : List Value} {fm : Value} {i : Nat} {j : Int32} (E : RoadKit.Exa Z h x ST) (V : RoadKit.Fld Z h x ST "value" "[B" (.ref t)) (C : RoadKit.Fld Z h x ST "coder" "B" (.int 0)) (K : RoadKit.Arv Z h t kb .byte N2 vs (.int 0)) (hc : CodA cs 0 N2 vs) (hb : ∀ c ∈ cs, ¬ c < 0 ∧ ¬ (65535 : Int32) < c)
    (S : RoadKit.Sta Z h ST "COMPACT_STRINGS" "Z" (.int z)) (hz : ¬ z = 0) (F : RoadKit.Sta Z h "jdk/internal/util/Preconditions" "SIOOBE_FORMATTER" "Ljava/util/function/BiFunction;" fm) (rf : fm.isRef = true) (l2 : cs.length ≤ 4000) (hi : i < cs.length) (hj : j = Int32.ofNat i) (hfr : 4 ≤ R.frames) (hlo : W + 53 ≤ R.locals) :
    Back l R p e below s args (⟨"java/lang/String", "charAt", "(I)C"⟩ : MethodName) len W (fun P a => a = #[.ref x, .int j] ∧ P.U.heap = h ∧ P.cells + 0 ≤ R.cells ∧ P.slots + 0 ≤ R.slots)
      (fun P _ v B => ∃ L, (v = some (.int (cs.getD i 0)) ∧ L = [] ∧ B.U.heap = h) ∧ B.locs = P.locs ++ L ∧ B.cells = P.cells + 0 ∧ B.slots = P.slots + 0) := by
  subst hj
  intro m meth c P g ig mk a X hg hsize hdg hW hn hp'
  obtain ⟨rfl, rfl, r1, r2⟩ := hp'
  have al : Z.vm.Alike P.U.vm := hZ.alike.trans X.warmed.alike
  obtain ⟨A, hx⟩ := txt_of wi al E V C K hc hb l2
  obtain ⟨v, B, X', ⟨⟨hv, hh⟩, hl, hk, hs⟩, st⟩ := ChN.pays x t A cs.length (fun j => cs.getD j 0) z fm i (tabChN_of (movedChN hZ hw)) hfr hlo m meth c P g ig mk _ X hg hsize hdg hW hn ⟨r1, r2, rfl, hx, hi, sta_is al S, hz, sta_is al F, rf⟩
  exact ⟨v, B, X', ⟨[], ⟨hv, rfl, hh⟩, hl, hk, hs⟩, st⟩
/-- what backV says of its String, as the contracts of this text ask it: cs's low bytes, coder 0 -/
theorem codOf {cs : List Int32} {n : Nat} (hn : cs.length = n) (hb : ∀ c ∈ cs, ¬ 255 < c) : CodA cs 0 (Int32.ofNat n) ((cs.map lo8).map Value.int) := Or.inl ⟨rfl, by rw [hn], by simp [List.map_map, Function.comp_def], hb⟩
end StrChars.Road
end Jvm.Pilot.@@N@@
namespace Jvm.Pilot.@@N@@
open Jvm Jvm.ClassFile Sem Op Lib Jvm.Free Jvm.Stand Jvm.LawKit Jvm.RoadKit Bundle Jvm.Pilot.@@N@@.Jvm.D
theorem own_hws {Z : State} {a0 : Array Value} (hw : ∀ d ∈ tables_1, d.before a0 Z = true) : ∀ d ∈ StrChars.Road.words, d.before a0 Z = true := fun d hd => hw d ((by decide +kernel : ∀ d ∈ StrChars.Road.words, d ∈ tables_1) d hd)
theorem own_hln {Z : State} {a0 : Array Value} (hw : ∀ d ∈ tables_1, d.before a0 Z = true) : ∀ d ∈ StrChars.Road.wordsLen, d.before a0 Z = true := fun d hd => hw d ((by decide +kernel : ∀ d ∈ StrChars.Road.wordsLen, d ∈ tables_1) d hd)
theorem own_hch {Z : State} {a0 : Array Value} (hw : ∀ d ∈ tables_1, d.before a0 Z = true) : ∀ d ∈ StrChars.Road.wordsChN, d.before a0 Z = true := fun d hd => hw d ((by decide +kernel : ∀ d ∈ StrChars.Road.wordsChN, d ∈ tables_1) d hd)
theorem own_up {c : Int32} (h : ¬ c < 0 ∧ ¬ (255 : Int32) < c) : ¬ c < 0 ∧ ¬ (65535 : Int32) < c := ⟨h.1, fun q => h.2 (Int32.lt_trans (by decide) q)⟩
abbrev own_EL : List (String × Nat) := [("java/lang/StringLatin1", 151)]
theorem own_EW {Z : State} {a0 : Array Value} (hw : ∀ d ∈ tables_1, d.before a0 Z = true) : EW Z a0 own_EL := EW.cons (hw _ (List.mem_of_getElem? (i := 90) rfl)) (by decide) (EW.nil)
theorem own_SA {Z : State} {a0 : Array Value} (hw : ∀ d ∈ tables_1, d.before a0 Z = true) : ∀ d ∈ Bundle.stringAtoms, d.before a0 Z = true := fun d hd => hw d ((by decide +kernel : ∀ d ∈ Bundle.stringAtoms, d ∈ tables_1) d hd)
theorem own_safeS {Z : State} {EL : List (String × Nat)} {vm : Vm} {h : Heap} {a : Addr} (hZ : Z.Warmed39 vm) (H : CHv Z EL vm h) (E : Exa Z h a "java/lang/String") (V : Fld Z h a "java/lang/String" "value" "[B" .null) : Safe Z EL vm h a := by
  intro B
  obtain ⟨pp, hp, u, x, hb, q, hq, ⟨cS, ⟨⟨s1, s2, s3, ⟨cv, kv, iv, s4, s4'⟩, -, s6, -, s8, -, s10, s11, -⟩, hfS, hcS⟩, -, hB, -⟩, hy⟩ := B
  rcases hy with rfl | rfl
  · obtain ⟨cell, cf, k, i, f, v1, v2, -, -, -, -, v7⟩ := V
    have s1' : h[q.sa]? = some q.sC := s1
    cases v1.symm.trans s1'
    obtain ⟨kv', z4⟩ := ff_back (U := Wst Z vm h) hZ.alike s4
    cases v2.symm.trans z4
    rw [v7] at s8; cases s8
  · obtain ⟨cell, k, e1, e2, e3, -⟩ := E
    have s10' : h[q.sd]? = some q.SA := s10
    cases e1.symm.trans s10'
    have hB' : vm.findClass "[B" = some q.SA.cls := hB
    rw [hZ.alike.findClass] at hB'
    obtain ⟨k1, a1, a2⟩ := Vm.findClass_spec e2
    obtain ⟨k2, b1, b2⟩ := Vm.findClass_spec hB'
    cases a1.symm.trans b1
    exact absurd (a2.symm.trans b2) (by decide)
def own_li (cs : List Int32) : Nat → Int32
  | 0 => -1
  | k + 1 => if cs.getD k 0 = 58 then Int32.ofNat k else own_li cs k
theorem own_li1 (cs : List Int32) (k : Nat) : own_li cs (k + 1) = if cs.getD k 0 = 58 then Int32.ofNat k else own_li cs k := rfl
theorem own_nnz (x : Int32) : ¬ (1 : Int32) + (x &&& 3) = 0 := by rcases own_and3 x with h | h | h | h <;> rw [h] <;> decide
def own_np (nn pp : Int32) : Prop := (nn = 1 ∧ pp = 0) ∨ (nn = 2 ∧ (pp = 0 ∨ pp = 1)) ∨ (nn = 3 ∧ (pp = 0 ∨ pp = 1 ∨ pp = 2)) ∨ (nn = 4 ∧ (pp = 0 ∨ pp = 1 ∨ pp = 2 ∨ pp = 3))
theorem own_npof (x y : Int32) : own_np ((1 : Int32) + (x &&& 3)) ((y &&& 3) % ((1 : Int32) + (x &&& 3))) := by
  unfold own_np; rcases own_and3 x with h | h | h | h <;> rcases own_and3 y with g | g | g | g <;> rw [h, g] <;> decide
def own_has (nn z0 z1 z2 z3 : Int32) : Prop := (nn = 1 ∧ z0 = 58) ∨ (nn = 2 ∧ (z0 = 58 ∨ z1 = 58)) ∨ (nn = 3 ∧ (z0 = 58 ∨ z1 = 58 ∨ z2 = 58)) ∨ (nn = 4 ∧ (z0 = 58 ∨ z1 = 58 ∨ z2 = 58 ∨ z3 = 58))
theorem own_has0 {nn pp z1 z2 z3 : Int32} (h : own_np nn pp) : own_has nn 58 z1 z2 z3 := by
  unfold own_has; rcases h with ⟨h, -⟩ | ⟨h, -⟩ | ⟨h, -⟩ | ⟨h, -⟩ <;> simp [h]
theorem own_has1 {nn pp z0 z2 z3 : Int32} (h : own_np nn pp) (q : pp = 1) : own_has nn z0 58 z2 z3 := by
  unfold own_has; rcases h with ⟨h, g⟩ | ⟨h, -⟩ | ⟨h, -⟩ | ⟨h, -⟩
  · rw [q] at g; exact absurd g (by decide)
  all_goals simp [h]
theorem own_has2 {nn pp z0 z1 z3 : Int32} (h : own_np nn pp) (q : pp = 2) : own_has nn z0 z1 58 z3 := by
  unfold own_has; rcases h with ⟨h, g⟩ | ⟨h, g⟩ | ⟨h, -⟩ | ⟨h, -⟩
  · rw [q] at g; exact absurd g (by decide)
  · rw [q] at g; exact absurd g (by decide)
  all_goals simp [h]
theorem own_has3 {nn pp z0 z1 z2 : Int32} (h : own_np nn pp) (q0 : ¬ pp = 0) (q1 : ¬ pp = 1) (q2 : ¬ pp = 2) : own_has nn z0 z1 z2 58 := by
  unfold own_has; rcases h with ⟨h, g⟩ | ⟨h, g⟩ | ⟨h, g⟩ | ⟨h, g⟩
  · exact absurd g q0
  · rcases g with g | g
    · exact absurd g q0
    · exact absurd g q1
  · rcases g with g | g | g
    · exact absurd g q0
    · exact absurd g q1
    · exact absurd g q2
  · simp [h]
theorem own_pn35620767 : plainFor (⟨"com/example/keyhole_limpet/keyholelimpet/OwnerIdentityClientIdOfPinLaw", "ch", "(I)C"⟩ : MethodName) = true := by first | exact Jvm.Free.JP.mathPlain rfl (by decide +kernel) | exact plainFor_of_name (by first | (simp [plainName, overriddenIn]; done) | decide +kernel) | decide +kernel
theorem own_d1_0 : decode method_2_code 0 = .ok (.iload_n 0, 1) := by decide +kernel
theorem own_d1_1 : decode method_2_code 1 = .ok (.sipush 256, 3) := by decide +kernel
theorem own_d1_4 : decode method_2_code 4 = .ok (.iand, 1) := by decide +kernel
theorem own_d1_5 : decode method_2_code 5 = .ok (.ifCond .eq 6, 3) := by decide +kernel
theorem own_d1_11 : decode method_2_code 11 = .ok (.iload_n 0, 1) := by decide +kernel
theorem own_d1_12 : decode method_2_code 12 = .ok (.sipush 255, 3) := by decide +kernel
theorem own_d1_15 : decode method_2_code 15 = .ok (.iand, 1) := by decide +kernel
theorem own_d1_16 : decode method_2_code 16 = .ok (.i2c, 1) := by decide +kernel
theorem own_d1_17 : decode method_2_code 17 = .ok (.ireturn, 1) := by decide +kernel
theorem own_d1_8 : decode method_2_code 8 = .ok (.bipush 58, 2) := by decide +kernel
theorem own_d1_10 : decode method_2_code 10 = .ok (.ireturn, 1) := by decide +kernel
theorem own_ef_rm_ch (m : MethodId) (x0 : Int32) : entryFrame m #[(.int x0)] 1 = mkF m 0 #[.val (.int x0)] [] := by first | (simp [entryFrame, mkF, argsToLocals, Value.category]; done) | rfl
def Q_rm_ch (Z : State) (b0 : Int32) (h0 : Heap) (n0 : Nat) (v : Option Value) (h : Heap) (L : List Loc) : Prop := ∃ (yc : Int32), v = some (.int yc) ∧ Fr n0 L ∧ h = h0 ∧ (¬ yc < 0 ∧ ¬ (255 : Int32) < yc)
set_option maxRecDepth 65536 in
set_option maxHeartbeats 40000000 in
theorem rm_ch (l : Launch) (Z : State) (a0 : Array Value) (hw : ∀ d ∈ tables_1, d.before a0 Z = true) (b0 : Int32) (h0 : Heap) (n0 : Nat) (Z0 : n0 ≤ h0.size)  :
    own_CT l Z (⟨"com/example/keyhole_limpet/keyholelimpet/OwnerIdentityClientIdOfPinLaw", "ch", "(I)C"⟩ : MethodName) method_2_code 1 (some .char) ({ frames := 0, cells := 0, slots := 0, locals := 0 } : Room) #[(.int b0)] h0 (Q_rm_ch Z b0 h0 n0) := by
  refine own_of own_pn35620767 (Ls := #[.val (.int b0)]) (fun m => own_ef_rm_ch m b0) ?_
  intro p e s m below meth c T0 X0 hx hby hml hown hnm hret hZ e0 hlk
  have hown : s.vm.findClass "com/example/keyhole_limpet/keyholelimpet/OwnerIdentityClientIdOfPinLaw" = some m.cls := hown
  have N0 := Fr.nil n0
  refine own_via (T0.setTop (mkF m 1 #[.val (.int b0)] [(.int b0)])) (fun t k => XS.iloadN X0.here hx rfl (hb hby own_d1_0) rfl k) ?_
  refine own_via (T0.setTop (mkF m 4 #[.val (.int b0)] [(.int (256 : Int32)), (.int b0)])) (fun t k => XS.sipush X0.here hx rfl (hb hby own_d1_1) k) ?_
  refine own_via (T0.setTop (mkF m 5 #[.val (.int b0)] [(.int (b0 &&& (256 : Int32)))])) (fun t k => XS.iand X0.here hx rfl (hb hby own_d1_4) rfl k) ?_
  by_cases hc : (b0 &&& (256 : Int32)) = 0
  · refine own_via (T0.setTop (mkF m 11 #[.val (.int b0)] [])) (fun t k => XS.ifYes X0.here hx rfl (pc0 := 5) (pc' := 11) rfl (hb hby own_d1_5) rfl (XT.i0_eq_t hc) (by decide) (by decide) k) ?_
    refine own_via (T0.setTop (mkF m 12 #[.val (.int b0)] [(.int b0)])) (fun t k => XS.iloadN X0.here hx rfl (hb hby own_d1_11) rfl k) ?_
    refine own_via (T0.setTop (mkF m 15 #[.val (.int b0)] [(.int (255 : Int32)), (.int b0)])) (fun t k => XS.sipush X0.here hx rfl (hb hby own_d1_12) k) ?_
    refine own_via (T0.setTop (mkF m 16 #[.val (.int b0)] [(.int (b0 &&& (255 : Int32)))])) (fun t k => XS.iand X0.here hx rfl (hb hby own_d1_15) rfl k) ?_
    refine own_via (T0.setTop (mkF m 17 #[.val (.int b0)] [(.int (((b0 &&& (255 : Int32))).toUInt32.toUInt16.toUInt32.toInt32))])) (fun t k => XS.i2c X0.here hx rfl (hb hby own_d1_16) rfl k) ?_
    exact own_retN X0 hx hlk (t := .char) hret (by simp) (hb hby own_d1_17) e0 (⟨_, rfl, N0, rfl, own_and255 _⟩) (by decide) (by decide)
  · refine own_via (T0.setTop (mkF m 8 #[.val (.int b0)] [])) (fun t k => XS.ifNo X0.here hx rfl (hb hby own_d1_5) rfl (XT.i0_eq_f hc) k) ?_
    refine own_via (T0.setTop (mkF m 10 #[.val (.int b0)] [(.int (58 : Int32))])) (fun t k => XS.bipush X0.here hx rfl (hb hby own_d1_8) k) ?_
    exact own_retN X0 hx hlk (t := .char) hret (by simp) (hb hby own_d1_10) e0 (⟨_, rfl, N0, rfl, by decide⟩) (by decide) (by decide)
theorem own_pn46369030 : plainFor (⟨"java/lang/StringLatin1", "canEncode", "(I)Z"⟩ : MethodName) = true := by first | exact Jvm.Free.JP.mathPlain rfl (by decide +kernel) | exact plainFor_of_name (by first | (simp [plainName, overriddenIn]; done) | decide +kernel) | decide +kernel
theorem own_d15_0 : decode jdk_43_method_4_code 0 = .ok (.iload_n 0, 1) := by decide +kernel
theorem own_d15_1 : decode jdk_43_method_4_code 1 = .ok (.ifCond .lt 14, 3) := by decide +kernel
theorem own_d15_4 : decode jdk_43_method_4_code 4 = .ok (.iload_n 0, 1) := by decide +kernel
theorem own_d15_5 : decode jdk_43_method_4_code 5 = .ok (.sipush 255, 3) := by decide +kernel
theorem own_d15_8 : decode jdk_43_method_4_code 8 = .ok (.if_icmp .gt 7, 3) := by decide +kernel
theorem own_d15_11 : decode jdk_43_method_4_code 11 = .ok (.iconst 1, 1) := by decide +kernel
theorem own_d15_12 : decode jdk_43_method_4_code 12 = .ok (.goto 4, 3) := by decide +kernel
theorem own_d15_16 : decode jdk_43_method_4_code 16 = .ok (.ireturn, 1) := by decide +kernel
theorem own_ef_rm_canE (m : MethodId)  : entryFrame m #[(.int (58 : Int32))] 1 = mkF m 0 #[.val (.int (58 : Int32))] [] := by first | (simp [entryFrame, mkF, argsToLocals, Value.category]; done) | rfl
def Q_rm_canE (Z : State)  (h0 : Heap) (n0 : Nat) (v : Option Value) (h : Heap) (L : List Loc) : Prop := v = some (.int (1 : Int32)) ∧ Fr n0 L ∧ h = h0
set_option maxRecDepth 65536 in
set_option maxHeartbeats 40000000 in
theorem rm_canE (l : Launch) (Z : State) (a0 : Array Value) (hw : ∀ d ∈ tables_1, d.before a0 Z = true)  (h0 : Heap) (n0 : Nat) (Z0 : n0 ≤ h0.size)  :
    own_CT l Z (⟨"java/lang/StringLatin1", "canEncode", "(I)Z"⟩ : MethodName) jdk_43_method_4_code 1 (some .boolean) ({ frames := 0, cells := 0, slots := 0, locals := 0 } : Room) #[(.int (58 : Int32))] h0 (Q_rm_canE Z  h0 n0) := by
  refine own_of own_pn46369030 (Ls := #[.val (.int (58 : Int32))]) (fun m => own_ef_rm_canE m ) ?_
  intro p e s m below meth c T0 X0 hx hby hml hown hnm hret hZ e0 hlk
  have hown : s.vm.findClass "java/lang/StringLatin1" = some m.cls := hown
  have N0 := Fr.nil n0
  refine own_via (T0.setTop (mkF m 1 #[.val (.int (58 : Int32))] [(.int (58 : Int32))])) (fun t k => XS.iloadN X0.here hx rfl (hb hby own_d15_0) rfl k) ?_
  refine own_via (T0.setTop (mkF m 4 #[.val (.int (58 : Int32))] [])) (fun t k => XS.ifNo X0.here hx rfl (hb hby own_d15_1) rfl (by decide) k) ?_
  refine own_via (T0.setTop (mkF m 5 #[.val (.int (58 : Int32))] [(.int (58 : Int32))])) (fun t k => XS.iloadN X0.here hx rfl (hb hby own_d15_4) rfl k) ?_
  refine own_via (T0.setTop (mkF m 8 #[.val (.int (58 : Int32))] [(.int (255 : Int32)), (.int (58 : Int32))])) (fun t k => XS.sipush X0.here hx rfl (hb hby own_d15_5) k) ?_
  refine own_via (T0.setTop (mkF m 11 #[.val (.int (58 : Int32))] [])) (fun t k => XS.icmpNo X0.here hx rfl (hb hby own_d15_8) rfl (by decide) k) ?_
  refine own_via (T0.setTop (mkF m 12 #[.val (.int (58 : Int32))] [(.int (1 : Int32))])) (fun t k => XS.iconst X0.here hx rfl (hb hby own_d15_11) k) ?_
  refine own_via (T0.setTop (mkF m 16 #[.val (.int (58 : Int32))] [(.int (1 : Int32))])) (fun t k => XS.goto X0.here hx rfl (pc0 := 12) (pc' := 16) rfl (hb hby own_d15_12) (by decide) (by decide) k) ?_
  exact own_retN X0 hx hlk (t := .boolean) hret (by simp) (hb hby own_d15_16) e0 (⟨rfl, N0, rfl⟩) (by decide) (by decide)
theorem own_pn86873925 : plainFor (⟨"java/lang/Math", "min", "(II)I"⟩ : MethodName) = true := by first | exact Jvm.Free.JP.mathPlain rfl (by decide +kernel) | exact plainFor_of_name (by first | (simp [plainName, overriddenIn]; done) | decide +kernel) | decide +kernel
theorem own_d16_0 : decode jdk_29_method_69_code 0 = .ok (.iload_n 0, 1) := by decide +kernel
theorem own_d16_1 : decode jdk_29_method_69_code 1 = .ok (.iload_n 1, 1) := by decide +kernel
theorem own_d16_2 : decode jdk_29_method_69_code 2 = .ok (.if_icmp .gt 7, 3) := by decide +kernel
theorem own_d16_9 : decode jdk_29_method_69_code 9 = .ok (.iload_n 1, 1) := by decide +kernel
theorem own_d16_10 : decode jdk_29_method_69_code 10 = .ok (.ireturn, 1) := by decide +kernel
theorem own_d16_5 : decode jdk_29_method_69_code 5 = .ok (.iload_n 0, 1) := by decide +kernel
theorem own_d16_6 : decode jdk_29_method_69_code 6 = .ok (.goto 4, 3) := by decide +kernel
theorem own_ef_rm_min (m : MethodId) (x0 : Int32) (x1 : Int32) : entryFrame m #[(.int x0), (.int x1)] 2 = mkF m 0 #[.val (.int x0), .val (.int x1)] [] := by first | (simp [entryFrame, mkF, argsToLocals, Value.category]; done) | rfl
def Q_rm_min (Z : State) (b0 : Int32) (b1 : Int32) (h0 : Heap) (n0 : Nat) (v : Option Value) (h : Heap) (L : List Loc) : Prop := v = some (.int (if b1 < b0 then b1 else b0)) ∧ Fr n0 L ∧ h = h0
set_option maxRecDepth 65536 in
set_option maxHeartbeats 40000000 in
theorem rm_min (l : Launch) (Z : State) (a0 : Array Value) (hw : ∀ d ∈ tables_1, d.before a0 Z = true) (b0 : Int32) (b1 : Int32) (h0 : Heap) (n0 : Nat) (Z0 : n0 ≤ h0.size)  :
    own_CT l Z (⟨"java/lang/Math", "min", "(II)I"⟩ : MethodName) jdk_29_method_69_code 2 (some .int) ({ frames := 0, cells := 0, slots := 0, locals := 0 } : Room) #[(.int b0), (.int b1)] h0 (Q_rm_min Z b0 b1 h0 n0) := by
  refine own_of own_pn86873925 (Ls := #[.val (.int b0), .val (.int b1)]) (fun m => own_ef_rm_min m b0 b1) ?_
  intro p e s m below meth c T0 X0 hx hby hml hown hnm hret hZ e0 hlk
  have hown : s.vm.findClass "java/lang/Math" = some m.cls := hown
  have N0 := Fr.nil n0
  refine own_via (T0.setTop (mkF m 1 #[.val (.int b0), .val (.int b1)] [(.int b0)])) (fun t k => XS.iloadN X0.here hx rfl (hb hby own_d16_0) rfl k) ?_
  refine own_via (T0.setTop (mkF m 2 #[.val (.int b0), .val (.int b1)] [(.int b1), (.int b0)])) (fun t k => XS.iloadN X0.here hx rfl (hb hby own_d16_1) rfl k) ?_
  by_cases hc : b1 < b0
  · refine own_via (T0.setTop (mkF m 9 #[.val (.int b0), .val (.int b1)] [])) (fun t k => XS.icmpYes X0.here hx rfl (pc0 := 2) (pc' := 9) rfl (hb hby own_d16_2) rfl (XT.ii_gt_t hc) (by decide) (by decide) k) ?_
    refine own_via (T0.setTop (mkF m 10 #[.val (.int b0), .val (.int b1)] [(.int b1)])) (fun t k => XS.iloadN X0.here hx rfl (hb hby own_d16_9) rfl k) ?_
    exact own_retI X0 hx hlk hret (hb hby own_d16_10) e0 (⟨by simp [hc], N0, rfl⟩) (by decide) (by decide)
  · refine own_via (T0.setTop (mkF m 5 #[.val (.int b0), .val (.int b1)] [])) (fun t k => XS.icmpNo X0.here hx rfl (hb hby own_d16_2) rfl (XT.ii_gt_f hc) k) ?_
    refine own_via (T0.setTop (mkF m 6 #[.val (.int b0), .val (.int b1)] [(.int b0)])) (fun t k => XS.iloadN X0.here hx rfl (hb hby own_d16_5) rfl k) ?_
    refine own_via (T0.setTop (mkF m 10 #[.val (.int b0), .val (.int b1)] [(.int b0)])) (fun t k => XS.goto X0.here hx rfl (pc0 := 6) (pc' := 10) rfl (hb hby own_d16_6) (by decide) (by decide) k) ?_
    exact own_retI X0 hx hlk hret (hb hby own_d16_10) e0 (⟨by simp [hc], N0, rfl⟩) (by decide) (by decide)
theorem own_pn97466211 : plainFor (⟨"java/lang/String", "isLatin1", "()Z"⟩ : MethodName) = true := by first | exact Jvm.Free.JP.mathPlain rfl (by decide +kernel) | exact plainFor_of_name (by first | (simp [plainName, overriddenIn]; done) | decide +kernel) | decide +kernel
theorem own_d13_0 : decode jdk_42_method_154_code 0 = .ok (.getstatic 38, 3) := by decide +kernel
theorem own_d13_3 : decode jdk_42_method_154_code 3 = .ok (.ifCond .eq 14, 3) := by decide +kernel
theorem own_d13_6 : decode jdk_42_method_154_code 6 = .ok (.aload_n 0, 1) := by decide +kernel
theorem own_d13_7 : decode jdk_42_method_154_code 7 = .ok (.getfield 15, 3) := by decide +kernel
theorem own_d13_10 : decode jdk_42_method_154_code 10 = .ok (.ifCond .ne 7, 3) := by decide +kernel
theorem own_d13_13 : decode jdk_42_method_154_code 13 = .ok (.iconst 1, 1) := by decide +kernel
theorem own_d13_14 : decode jdk_42_method_154_code 14 = .ok (.goto 4, 3) := by decide +kernel
theorem own_d13_18 : decode jdk_42_method_154_code 18 = .ok (.ireturn, 1) := by decide +kernel
theorem own_ef_rm_isLatin1 (m : MethodId) (x0 : Addr) : entryFrame m #[(.ref x0)] 1 = mkF m 0 #[.val (.ref x0)] [] := by first | (simp [entryFrame, mkF, argsToLocals, Value.category]; done) | rfl
def Q_rm_isLatin1 (Z : State) (a1 : Nat) (G1 : Int32) (h0 : Heap) (n0 : Nat) (v : Option Value) (h : Heap) (L : List Loc) : Prop := v = some (.int (1 : Int32)) ∧ Fr n0 L ∧ h = h0
set_option maxRecDepth 65536 in
set_option maxHeartbeats 40000000 in
theorem rm_isLatin1 (l : Launch) (Z : State) (a0 : Array Value) (hw : ∀ d ∈ tables_1, d.before a0 Z = true) (a1 : Nat) (G1 : Int32) (h0 : Heap) (n0 : Nat) (Z0 : n0 ≤ h0.size) (pf0 : Fld Z h0 a1 "java/lang/String" "coder" "B" (.int (0 : Int32))) (pf1 : Sta Z Z.heap "java/lang/String" "COMPACT_STRINGS" "Z" (.int G1)) (pf2 : Old Z n0 h0) (hG1 : ¬ G1 = 0) :
    own_CT l Z (⟨"java/lang/String", "isLatin1", "()Z"⟩ : MethodName) jdk_42_method_154_code 1 (some .boolean) ({ frames := 0, cells := 0, slots := 0, locals := 0 } : Room) #[(.ref a1)] h0 (Q_rm_isLatin1 Z a1 G1 h0 n0) := by
  refine own_of own_pn97466211 (Ls := #[.val (.ref a1)]) (fun m => own_ef_rm_isLatin1 m a1) ?_
  intro p e s m below meth c T0 X0 hx hby hml hown hnm hret hZ e0 hlk
  have hown : s.vm.findClass "java/lang/String" = some m.cls := hown
  have N0 := Fr.nil n0
  have lt_a1 : @LT.lt Nat _ a1 h0.size := pf0.lt
  obtain ⟨T1, X1, e1, st1⟩ := getS X0 hx hZ (host := "") hown (hw _ (List.mem_of_getElem? (i := 18) rfl)) Via.refl e0 (pf1.ext pf2.2) (g := (mkF m 0 #[.val (.ref a1)] [])) rfl (hb hby own_d13_0)
  refine own_via (T1.setTop (mkF m 3 #[.val (.ref a1)] [(.int G1)])) (st1) ?_
  refine own_via (T1.setTop (mkF m 6 #[.val (.ref a1)] [])) (fun t k => XS.ifNo X1.here hx rfl (hb hby own_d13_3) rfl (XT.i0_eq_f hG1) k) ?_
  refine own_via (T1.setTop (mkF m 7 #[.val (.ref a1)] [(.ref a1)])) (fun t k => XS.aloadN X1.here hx rfl (hb hby own_d13_6) rfl rfl k) ?_
  obtain ⟨T2, X2, e2, st2⟩ := getF X1 hx hZ hown (host := "") (Or.inl (hw _ (List.mem_of_getElem? (i := 30) rfl))) Via.refl e1 pf0 (g := (mkF m 7 #[.val (.ref a1)] [(.ref a1)])) rfl rfl (hb hby own_d13_7)
  refine own_via (T2.setTop (mkF m 10 #[.val (.ref a1)] [(.int (0 : Int32))])) (st2) ?_
  refine own_via (T2.setTop (mkF m 13 #[.val (.ref a1)] [])) (fun t k => XS.ifNo X2.here hx rfl (hb hby own_d13_10) rfl (by decide) k) ?_
  refine own_via (T2.setTop (mkF m 14 #[.val (.ref a1)] [(.int (1 : Int32))])) (fun t k => XS.iconst X2.here hx rfl (hb hby own_d13_13) k) ?_
  refine own_via (T2.setTop (mkF m 18 #[.val (.ref a1)] [(.int (1 : Int32))])) (fun t k => XS.goto X2.here hx rfl (pc0 := 14) (pc' := 18) rfl (hb hby own_d13_14) (by decide) (by decide) k) ?_
  exact own_retN X2 hx hlk (t := .boolean) hret (by simp) (hb hby own_d13_18) e2 (⟨rfl, N0, rfl⟩) (by decide) (by decide)
theorem own_pn94350788 : plainFor (⟨"jdk/internal/util/Preconditions", "checkFromToIndex", "(IIILjava/util/function/BiFunction;)I"⟩ : MethodName) = true := by first | exact Jvm.Free.JP.mathPlain rfl (by decide +kernel) | exact plainFor_of_name (by first | (simp [plainName, overriddenIn]; done) | decide +kernel) | decide +kernel
theorem own_d19_0 : decode jdk_41_method_12_code 0 = .ok (.iload_n 0, 1) := by decide +kernel
theorem own_d19_1 : decode jdk_41_method_12_code 1 = .ok (.ifCond .lt 13, 3) := by decide +kernel
theorem own_d19_4 : decode jdk_41_method_12_code 4 = .ok (.iload_n 0, 1) := by decide +kernel
theorem own_d19_5 : decode jdk_41_method_12_code 5 = .ok (.iload_n 1, 1) := by decide +kernel
theorem own_d19_6 : decode jdk_41_method_12_code 6 = .ok (.if_icmp .gt 8, 3) := by decide +kernel
theorem own_d19_9 : decode jdk_41_method_12_code 9 = .ok (.iload_n 1, 1) := by decide +kernel
theorem own_d19_10 : decode jdk_41_method_12_code 10 = .ok (.iload_n 2, 1) := by decide +kernel
theorem own_d19_11 : decode jdk_41_method_12_code 11 = .ok (.if_icmp .le 11, 3) := by decide +kernel
theorem own_d19_22 : decode jdk_41_method_12_code 22 = .ok (.iload_n 0, 1) := by decide +kernel
theorem own_d19_23 : decode jdk_41_method_12_code 23 = .ok (.ireturn, 1) := by decide +kernel
theorem own_ef_rm_cFT (m : MethodId) (x0 : Int32) (x1 : Int32) (x2 : Int32) (x3 : Value) (hx3 : x3.isRef = true) : entryFrame m #[(.int x0), (.int x1), (.int x2), x3] 4 = mkF m 0 #[.val (.int x0), .val (.int x1), .val (.int x2), .val x3] [] := by rcases ref_cases hx3 with rfl | ⟨_, rfl⟩ <;> first | (simp [entryFrame, mkF, argsToLocals, Value.category]; done) | rfl
def Q_rm_cFT (Z : State) (b0 : Int32) (b1 : Int32) (b2 : Int32) (fm : Value) (h0 : Heap) (n0 : Nat) (v : Option Value) (h : Heap) (L : List Loc) : Prop := v = some (.int b0) ∧ Fr n0 L ∧ h = h0
set_option maxRecDepth 65536 in
set_option maxHeartbeats 40000000 in
theorem rm_cFT (l : Launch) (Z : State) (a0 : Array Value) (hw : ∀ d ∈ tables_1, d.before a0 Z = true) (b0 : Int32) (b1 : Int32) (b2 : Int32) (fm : Value) (h0 : Heap) (n0 : Nat) (Z0 : n0 ≤ h0.size) (rfm : fm.isRef = true) (h1 : ¬ b0 < 0) (h2 : ¬ b1 < b0) (h3 : ¬ b2 < b1) :
    own_CT l Z (⟨"jdk/internal/util/Preconditions", "checkFromToIndex", "(IIILjava/util/function/BiFunction;)I"⟩ : MethodName) jdk_41_method_12_code 4 (some .int) ({ frames := 0, cells := 0, slots := 0, locals := 0 } : Room) #[(.int b0), (.int b1), (.int b2), fm] h0 (Q_rm_cFT Z b0 b1 b2 fm h0 n0) := by
  refine own_of own_pn94350788 (Ls := #[.val (.int b0), .val (.int b1), .val (.int b2), .val fm]) (fun m => own_ef_rm_cFT m b0 b1 b2 fm rfm) ?_
  intro p e s m below meth c T0 X0 hx hby hml hown hnm hret hZ e0 hlk
  have hown : s.vm.findClass "jdk/internal/util/Preconditions" = some m.cls := hown
  have N0 := Fr.nil n0
  refine own_via (T0.setTop (mkF m 1 #[.val (.int b0), .val (.int b1), .val (.int b2), .val fm] [(.int b0)])) (fun t k => XS.iloadN X0.here hx rfl (hb hby own_d19_0) rfl k) ?_
  refine own_via (T0.setTop (mkF m 4 #[.val (.int b0), .val (.int b1), .val (.int b2), .val fm] [])) (fun t k => XS.ifNo X0.here hx rfl (hb hby own_d19_1) rfl (XT.i0_lt_f h1) k) ?_
  refine own_via (T0.setTop (mkF m 5 #[.val (.int b0), .val (.int b1), .val (.int b2), .val fm] [(.int b0)])) (fun t k => XS.iloadN X0.here hx rfl (hb hby own_d19_4) rfl k) ?_
  refine own_via (T0.setTop (mkF m 6 #[.val (.int b0), .val (.int b1), .val (.int b2), .val fm] [(.int b1), (.int b0)])) (fun t k => XS.iloadN X0.here hx rfl (hb hby own_d19_5) rfl k) ?_
  refine own_via (T0.setTop (mkF m 9 #[.val (.int b0), .val (.int b1), .val (.int b2), .val fm] [])) (fun t k => XS.icmpNo X0.here hx rfl (hb hby own_d19_6) rfl (XT.ii_gt_f h2) k) ?_
  refine own_via (T0.setTop (mkF m 10 #[.val (.int b0), .val (.int b1), .val (.int b2), .val fm] [(.int b1)])) (fun t k => XS.iloadN X0.here hx rfl (hb hby own_d19_9) rfl k) ?_
  refine own_via (T0.setTop (mkF m 11 #[.val (.int b0), .val (.int b1), .val (.int b2), .val fm] [(.int b2), (.int b1)])) (fun t k => XS.iloadN X0.here hx rfl (hb hby own_d19_10) rfl k) ?_
  refine own_via (T0.setTop (mkF m 22 #[.val (.int b0), .val (.int b1), .val (.int b2), .val fm] [])) (fun t k => XS.icmpYes X0.here hx rfl (pc0 := 11) (pc' := 22) rfl (hb hby own_d19_11) rfl (XT.ii_le_t h3) (by decide) (by decide) k) ?_
  refine own_via (T0.setTop (mkF m 23 #[.val (.int b0), .val (.int b1), .val (.int b2), .val fm] [(.int b0)])) (fun t k => XS.iloadN X0.here hx rfl (hb hby own_d19_22) rfl k) ?_
  exact own_retI X0 hx hlk hret (hb hby own_d19_23) e0 (⟨rfl, N0, rfl⟩) (by decide) (by decide)
theorem own_pn71570515 : plainFor (⟨"java/lang/String", "checkBoundsBeginEnd", "(III)V"⟩ : MethodName) = true := by first | exact Jvm.Free.JP.mathPlain rfl (by decide +kernel) | exact plainFor_of_name (by first | (simp [plainName, overriddenIn]; done) | decide +kernel) | decide +kernel
theorem own_d18_0 : decode jdk_42_method_158_code 0 = .ok (.iload_n 0, 1) := by decide +kernel
theorem own_d18_1 : decode jdk_42_method_158_code 1 = .ok (.iload_n 1, 1) := by decide +kernel
theorem own_d18_2 : decode jdk_42_method_158_code 2 = .ok (.iload_n 2, 1) := by decide +kernel
theorem own_d18_3 : decode jdk_42_method_158_code 3 = .ok (.getstatic 1053, 3) := by decide +kernel
theorem own_d18_6 : decode jdk_42_method_158_code 6 = .ok (.invokestatic 1062, 3) := by decide +kernel
theorem own_pd66912974 : parseMethodDescriptor "(IIILjava/util/function/BiFunction;)I" = some ⟨[.int, .int, .int, (.object "java/util/function/BiFunction")], some .int⟩ := by decide +kernel
theorem own_d18_9 : decode jdk_42_method_158_code 9 = .ok (.pop, 1) := by decide +kernel
theorem own_d18_10 : decode jdk_42_method_158_code 10 = .ok (.return_, 1) := by decide +kernel
theorem own_ef_rm_cBE (m : MethodId) (x0 : Int32) (x1 : Int32) (x2 : Int32) : entryFrame m #[(.int x0), (.int x1), (.int x2)] 3 = mkF m 0 #[.val (.int x0), .val (.int x1), .val (.int x2)] [] := by first | (simp [entryFrame, mkF, argsToLocals, Value.category]; done) | rfl
def Q_rm_cBE (Z : State) (b0 : Int32) (b1 : Int32) (b2 : Int32) (fm : Value) (h0 : Heap) (n0 : Nat) (v : Option Value) (h : Heap) (L : List Loc) : Prop := v = none ∧ Fr n0 L ∧ h = h0
set_option maxRecDepth 65536 in
set_option maxHeartbeats 40000000 in
theorem rm_cBE (l : Launch) (Z : State) (a0 : Array Value) (hw : ∀ d ∈ tables_1, d.before a0 Z = true) (b0 : Int32) (b1 : Int32) (b2 : Int32) (fm : Value) (h0 : Heap) (n0 : Nat) (Z0 : n0 ≤ h0.size) (pf0 : Sta Z Z.heap "jdk/internal/util/Preconditions" "SIOOBE_FORMATTER" "Ljava/util/function/BiFunction;" fm) (pf1 : Old Z n0 h0) (rfm : fm.isRef = true) (h1 : ¬ b0 < 0) (h2 : ¬ b1 < b0) (h3 : ¬ b2 < b1) :
    own_CT l Z (⟨"java/lang/String", "checkBoundsBeginEnd", "(III)V"⟩ : MethodName) jdk_42_method_158_code 3 none ({ frames := 1, cells := 0, slots := 0, locals := 15 } : Room) #[(.int b0), (.int b1), (.int b2)] h0 (Q_rm_cBE Z b0 b1 b2 fm h0 n0) := by
  refine own_of own_pn71570515 (Ls := #[.val (.int b0), .val (.int b1), .val (.int b2)]) (fun m => own_ef_rm_cBE m b0 b1 b2) ?_
  intro p e s m below meth c T0 X0 hx hby hml hown hnm hret hZ e0 hlk
  have hown : s.vm.findClass "java/lang/String" = some m.cls := hown
  have N0 := Fr.nil n0
  refine own_via (T0.setTop (mkF m 1 #[.val (.int b0), .val (.int b1), .val (.int b2)] [(.int b0)])) (fun t k => XS.iloadN X0.here hx rfl (hb hby own_d18_0) rfl k) ?_
  refine own_via (T0.setTop (mkF m 2 #[.val (.int b0), .val (.int b1), .val (.int b2)] [(.int b1), (.int b0)])) (fun t k => XS.iloadN X0.here hx rfl (hb hby own_d18_1) rfl k) ?_
  refine own_via (T0.setTop (mkF m 3 #[.val (.int b0), .val (.int b1), .val (.int b2)] [(.int b2), (.int b1), (.int b0)])) (fun t k => XS.iloadN X0.here hx rfl (hb hby own_d18_2) rfl k) ?_
  obtain ⟨T1, X1, e1, st1⟩ := getS X0 hx hZ (host := "") hown (hw _ (List.mem_of_getElem? (i := 82) rfl)) Via.refl e0 (pf0.ext pf1.2) (g := (mkF m 3 #[.val (.int b0), .val (.int b1), .val (.int b2)] [(.int b2), (.int b1), (.int b0)])) rfl (hb hby own_d18_3)
  refine own_via (T1.setTop (mkF m 6 #[.val (.int b0), .val (.int b1), .val (.int b2)] [fm, (.int b2), (.int b1), (.int b0)])) (st1) ?_
  obtain ⟨v2, T2, h2, L2, X2, e2, q2, st2⟩ := own_cS X1 hx hZ hown (hw _ (List.mem_of_getElem? (i := 84) rfl)) (hw _ (List.mem_of_getElem? (i := 85) rfl)) (hw _ (List.mem_of_getElem? (i := 83) rfl)) (hw _ (List.mem_of_getElem? (i := 86) rfl)) (by decide) (W := 0) (own_bk (rm_cFT l Z a0 hw b0 b1 b2 fm h0 n0 (by omega) rfm h1 h2 h3) hZ (hw _ (List.mem_of_getElem? (i := 86) rfl)) (hw _ (List.mem_of_getElem? (i := 83) rfl)) (by decide) (by decide)) e1 (Ls := #[.val (.int b0), .val (.int b1), .val (.int b2)]) (by rw [hml]; rfl) (argsL := [(.int b0), (.int b1), (.int b2), fm]) (rest := []) rfl (lenOf own_pd66912974 rfl) rfl (Nat.le_of_eq rfl) (hb hby own_d18_6) (by decide) (by decide)
  obtain ⟨rfl, Nq2, eq2⟩ := q2
  have N2 := Fr.app N0 Nq2
  replace e2 := e2.trans eq2
  refine own_via (T2.setTop (mkF m 9 #[.val (.int b0), .val (.int b1), .val (.int b2)] [(.int b0)])) (st2) ?_
  refine own_via (T2.setTop (mkF m 10 #[.val (.int b0), .val (.int b1), .val (.int b2)] [])) (fun t k => XS.pop X2.here hx rfl (hb hby own_d18_9) rfl rfl k) ?_
  exact own_ret0 X2 hx hlk hret (hb hby own_d18_10) e2 (⟨rfl, N2, rfl⟩) (by decide) (by decide)
theorem own_pn23516699 : plainFor (⟨"java/lang/StringLatin1", "lastIndexOf", "([BII)I"⟩ : MethodName) = true := by first | exact Jvm.Free.JP.mathPlain rfl (by decide +kernel) | exact plainFor_of_name (by first | (simp [plainName, overriddenIn]; done) | decide +kernel) | decide +kernel
theorem own_d14_0 : decode jdk_43_method_27_code 0 = .ok (.iload_n 1, 1) := by decide +kernel
theorem own_d14_1 : decode jdk_43_method_27_code 1 = .ok (.invokestatic 88, 3) := by decide +kernel
theorem own_pd12540054 : parseMethodDescriptor "(I)Z" = some ⟨[.int], some .boolean⟩ := by decide +kernel
theorem own_d14_4 : decode jdk_43_method_27_code 4 = .ok (.ifCond .ne 5, 3) := by decide +kernel
theorem own_d14_9 : decode jdk_43_method_27_code 9 = .ok (.iload_n 2, 1) := by decide +kernel
theorem own_d14_10 : decode jdk_43_method_27_code 10 = .ok (.aload_n 0, 1) := by decide +kernel
theorem own_d14_11 : decode jdk_43_method_27_code 11 = .ok (.arraylength, 1) := by decide +kernel
theorem own_d14_12 : decode jdk_43_method_27_code 12 = .ok (.iconst 1, 1) := by decide +kernel
theorem own_d14_13 : decode jdk_43_method_27_code 13 = .ok (.isub, 1) := by decide +kernel
theorem own_d14_14 : decode jdk_43_method_27_code 14 = .ok (.invokestatic 38, 3) := by decide +kernel
theorem own_pd17926884 : parseMethodDescriptor "(II)I" = some ⟨[.int, .int], some .int⟩ := by decide +kernel
theorem own_d14_17 : decode jdk_43_method_27_code 17 = .ok (.istore_n 3, 1) := by decide +kernel
theorem own_d14_18 : decode jdk_43_method_27_code 18 = .ok (.iload_n 3, 1) := by decide +kernel
theorem own_d14_19 : decode jdk_43_method_27_code 19 = .ok (.ifCond .lt 19, 3) := by decide +kernel
theorem own_d14_38 : decode jdk_43_method_27_code 38 = .ok (.iconst (-1), 1) := by decide +kernel
theorem own_d14_39 : decode jdk_43_method_27_code 39 = .ok (.ireturn, 1) := by decide +kernel
theorem own_d14_22 : decode jdk_43_method_27_code 22 = .ok (.aload_n 0, 1) := by decide +kernel
theorem own_d14_23 : decode jdk_43_method_27_code 23 = .ok (.iload_n 3, 1) := by decide +kernel
theorem own_d14_24 : decode jdk_43_method_27_code 24 = .ok (.baload, 1) := by decide +kernel
theorem own_d14_25 : decode jdk_43_method_27_code 25 = .ok (.iload_n 1, 1) := by decide +kernel
theorem own_d14_26 : decode jdk_43_method_27_code 26 = .ok (.i2b, 1) := by decide +kernel
theorem own_d14_27 : decode jdk_43_method_27_code 27 = .ok (.if_icmp .ne 5, 3) := by decide +kernel
theorem own_d14_30 : decode jdk_43_method_27_code 30 = .ok (.iload_n 3, 1) := by decide +kernel
theorem own_d14_31 : decode jdk_43_method_27_code 31 = .ok (.ireturn, 1) := by decide +kernel
theorem own_d14_32 : decode jdk_43_method_27_code 32 = .ok (.iinc 3 (-1), 3) := by decide +kernel
theorem own_d14_35 : decode jdk_43_method_27_code 35 = .ok (.goto (-17), 3) := by decide +kernel
theorem own_ef_rm_l1last (m : MethodId) (x0 : Addr) (x2 : Int32) : entryFrame m #[(.ref x0), (.int (58 : Int32)), (.int x2)] 4 = mkF m 0 #[.val (.ref x0), .val (.int (58 : Int32)), .val (.int x2), .unset] [] := by first | (simp [entryFrame, mkF, argsToLocals, Value.category]; done) | rfl
def Q_rm_l1last (Z : State) (t1 : Nat) (kb : ClassId) (cs : List Int32) (b0 : Int32) (h0 : Heap) (n0 : Nat) (v : Option Value) (h : Heap) (L : List Loc) : Prop := v = some (.int (own_li cs cs.length)) ∧ Fr n0 L ∧ h = h0
set_option maxRecDepth 65536 in
set_option maxHeartbeats 40000000 in
theorem rm_l1last (l : Launch) (Z : State) (a0 : Array Value) (hw : ∀ d ∈ tables_1, d.before a0 Z = true) (t1 : Nat) (kb : ClassId) (cs : List Int32) (b0 : Int32) (h0 : Heap) (n0 : Nat) (Z0 : n0 ≤ h0.size) (pf0 : Arv Z h0 t1 kb .byte (Int32.ofNat cs.length) (own_BS cs) (.int 0)) (hz0 : b0 = Int32.ofNat cs.length - 1) (hl : cs.length ≤ 4) (hp : ∀ c ∈ cs, ¬ c < 0 ∧ ¬ (255 : Int32) < c) :
    own_CT l Z (⟨"java/lang/StringLatin1", "lastIndexOf", "([BII)I"⟩ : MethodName) jdk_43_method_27_code 4 (some .int) ({ frames := 1, cells := 0, slots := 0, locals := 13 } : Room) #[(.ref t1), (.int (58 : Int32)), (.int b0)] h0 (Q_rm_l1last Z t1 kb cs b0 h0 n0) := by
  refine own_of own_pn23516699 (Ls := #[.val (.ref t1), .val (.int (58 : Int32)), .val (.int b0), .unset]) (fun m => own_ef_rm_l1last m t1 b0) ?_
  intro p e s m below meth c T0 X0 hx hby hml hown hnm hret hZ e0 hlk
  have hown : s.vm.findClass "java/lang/StringLatin1" = some m.cls := hown
  have N0 := Fr.nil n0
  have lt_t1 : @LT.lt Nat _ t1 h0.size := pf0.lt
  refine own_via (T0.setTop (mkF m 1 #[.val (.ref t1), .val (.int (58 : Int32)), .val (.int b0), .unset] [(.int (58 : Int32))])) (fun t k => XS.iloadN X0.here hx rfl (hb hby own_d14_0) rfl k) ?_
  obtain ⟨v1, T1, h1, L1, X1, e1, q1, st1⟩ := own_cS X0 hx hZ hown (hw _ (List.mem_of_getElem? (i := 67) rfl)) (hw _ (List.mem_of_getElem? (i := 68) rfl)) (hw _ (List.mem_of_getElem? (i := 65) rfl)) (hw _ (List.mem_of_getElem? (i := 69) rfl)) (by decide) (W := 0) (own_bk (rm_canE l Z a0 hw h0 n0 (by omega)) hZ (hw _ (List.mem_of_getElem? (i := 69) rfl)) (hw _ (List.mem_of_getElem? (i := 65) rfl)) (by decide) (by decide)) e0 (Ls := #[.val (.ref t1), .val (.int (58 : Int32)), .val (.int b0), .unset]) (by rw [hml]; rfl) (argsL := [(.int (58 : Int32))]) (rest := []) rfl (lenOf own_pd12540054 rfl) rfl (Nat.le_of_eq rfl) (hb hby own_d14_1) (by decide) (by decide)
  obtain ⟨rfl, Nq1, eq1⟩ := q1
  have N1 := Fr.app N0 Nq1
  replace e1 := e1.trans eq1
  refine own_via (T1.setTop (mkF m 4 #[.val (.ref t1), .val (.int (58 : Int32)), .val (.int b0), .unset] [(.int (1 : Int32))])) (st1) ?_
  refine own_via (T1.setTop (mkF m 9 #[.val (.ref t1), .val (.int (58 : Int32)), .val (.int b0), .unset] [])) (fun t k => XS.ifYes X1.here hx rfl (pc0 := 4) (pc' := 9) rfl (hb hby own_d14_4) rfl (by decide) (by decide) (by decide) k) ?_
  refine own_via (T1.setTop (mkF m 10 #[.val (.ref t1), .val (.int (58 : Int32)), .val (.int b0), .unset] [(.int b0)])) (fun t k => XS.iloadN X1.here hx rfl (hb hby own_d14_9) rfl k) ?_
  refine own_via (T1.setTop (mkF m 11 #[.val (.ref t1), .val (.int (58 : Int32)), .val (.int b0), .unset] [(.ref t1), (.int b0)])) (fun t k => XS.aloadN X1.here hx rfl (hb hby own_d14_10) rfl rfl k) ?_
  obtain ⟨c2, A2, q2, S2, M2, H2, U2⟩ := id pf0
  refine own_via (T1.setTop (mkF m 12 #[.val (.ref t1), .val (.int (58 : Int32)), .val (.int b0), .unset] [(.int (Int32.ofNat cs.length)), (.int b0)])) (fun t k => X1.arraylength hx (by rw [e1]; exact A2.1) (State.isArrayOf_alike (hZ).alike A2.2.1) (g := (mkF m 11 #[.val (.ref t1), .val (.int (58 : Int32)), .val (.int b0), .unset] [(.ref t1), (.int b0)])) rfl rfl (hb hby own_d14_11) t (by rw [len_of S2 M2]; exact k)) ?_
  refine own_via (T1.setTop (mkF m 13 #[.val (.ref t1), .val (.int (58 : Int32)), .val (.int b0), .unset] [(.int (1 : Int32)), (.int (Int32.ofNat cs.length)), (.int b0)])) (fun t k => XS.iconst X1.here hx rfl (hb hby own_d14_12) k) ?_
  refine own_via (T1.setTop (mkF m 14 #[.val (.ref t1), .val (.int (58 : Int32)), .val (.int b0), .unset] [(.int ((Int32.ofNat cs.length) - (1 : Int32))), (.int b0)])) (fun t k => XS.isub X1.here hx rfl (hb hby own_d14_13) rfl k) ?_
  obtain ⟨v3, T3, h3, L3, X3, e3, q3, st3⟩ := own_cS X1 hx hZ hown (hw _ (List.mem_of_getElem? (i := 70) rfl)) (hw _ (List.mem_of_getElem? (i := 71) rfl)) (hw _ (List.mem_of_getElem? (i := 72) rfl)) (hw _ (List.mem_of_getElem? (i := 73) rfl)) (by decide) (W := 0) (own_bk (rm_min l Z a0 hw b0 ((Int32.ofNat cs.length) - (1 : Int32)) h0 n0 (by omega)) hZ (hw _ (List.mem_of_getElem? (i := 73) rfl)) (hw _ (List.mem_of_getElem? (i := 72) rfl)) (by decide) (by decide)) e1 (Ls := #[.val (.ref t1), .val (.int (58 : Int32)), .val (.int b0), .unset]) (by rw [hml]; rfl) (argsL := [(.int b0), (.int ((Int32.ofNat cs.length) - (1 : Int32)))]) (rest := []) rfl (lenOf own_pd17926884 rfl) rfl (Nat.le_of_eq rfl) (hb hby own_d14_14) (by decide) (by decide)
  obtain ⟨rfl, Nq3, eq3⟩ := q3
  have N3 := Fr.app N1 Nq3
  replace e3 := e3.trans eq3
  refine own_via (T3.setTop (mkF m 17 #[.val (.ref t1), .val (.int (58 : Int32)), .val (.int b0), .unset] [(.int (if ((Int32.ofNat cs.length) - (1 : Int32)) < b0 then ((Int32.ofNat cs.length) - (1 : Int32)) else b0))])) (st3) ?_
  rw [own_mm hz0]
  refine own_via (T3.setTop (mkF m 18 #[.val (.ref t1), .val (.int (58 : Int32)), .val (.int b0), .val (.int (Int32.ofNat cs.length - (1 : Int32)))] [])) (fun t k => XS.istoreN X3.here hx rfl (hb hby own_d14_17) rfl (l' := #[.val (.ref t1), .val (.int (58 : Int32)), .val (.int b0), .val (.int (Int32.ofNat cs.length - (1 : Int32)))]) rfl k) ?_
  have LP : ∀ (kk : Nat) , (kk ≤ cs.length) → (own_li cs kk = own_li cs cs.length) → own_Ends p.tables e below (own_Post s (Q_rm_l1last Z t1 kb cs b0 h0 n0) ({ frames := 1, cells := 0, slots := 0, locals := 13 } : Room).cells ({ frames := 1, cells := 0, slots := 0, locals := 13 } : Room).slots) (T3.setTop (mkF m 18 #[.val (.ref t1), .val (.int (58 : Int32)), .val (.int b0), .val (.int (Int32.ofNat kk - (1 : Int32)))] [])) := by
    intro kk
    induction kk with
    | zero =>
      intro hk1 hk2
      refine own_via (T3.setTop (mkF m 19 #[.val (.ref t1), .val (.int (58 : Int32)), .val (.int b0), .val (.int (Int32.ofNat 0 - (1 : Int32)))] [(.int (Int32.ofNat 0 - (1 : Int32)))])) (fun t k => XS.iloadN X3.here hx rfl (hb hby own_d14_18) rfl k) ?_
      refine own_via (T3.setTop (mkF m 38 #[.val (.ref t1), .val (.int (58 : Int32)), .val (.int b0), .val (.int (Int32.ofNat 0 - (1 : Int32)))] [])) (fun t k => XS.ifYes X3.here hx rfl (pc0 := 19) (pc' := 38) rfl (hb hby own_d14_19) rfl (XT.i0_lt_t (by decide)) (by decide) (by decide) k) ?_
      refine own_via (T3.setTop (mkF m 39 #[.val (.ref t1), .val (.int (58 : Int32)), .val (.int b0), .val (.int (Int32.ofNat 0 - (1 : Int32)))] [(.int (-1 : Int32))])) (fun t k => XS.iconst X3.here hx rfl (hb hby own_d14_38) k) ?_
      exact own_retI X3 hx hlk hret (hb hby own_d14_39) e3 (⟨congrArg (fun z => some (Value.int z)) (by rw [← hk2]; rfl), N3, rfl⟩) (by decide) (by decide)
    | succ kk ih =>
      intro hk1 hk2
      rw [own_osub1 kk]
      refine own_via (T3.setTop (mkF m 19 #[.val (.ref t1), .val (.int (58 : Int32)), .val (.int b0), .val (.int (Int32.ofNat kk))] [(.int (Int32.ofNat kk))])) (fun t k => XS.iloadN X3.here hx rfl (hb hby own_d14_18) rfl k) ?_
      refine own_via (T3.setTop (mkF m 22 #[.val (.ref t1), .val (.int (58 : Int32)), .val (.int b0), .val (.int (Int32.ofNat kk))] [])) (fun t k => XS.ifNo X3.here hx rfl (hb hby own_d14_19) rfl (XT.i0_lt_f (own_nneg (by omega))) k) ?_
      refine own_via (T3.setTop (mkF m 23 #[.val (.ref t1), .val (.int (58 : Int32)), .val (.int b0), .val (.int (Int32.ofNat kk))] [(.ref t1)])) (fun t k => XS.aloadN X3.here hx rfl (hb hby own_d14_22) rfl rfl k) ?_
      refine own_via (T3.setTop (mkF m 24 #[.val (.ref t1), .val (.int (58 : Int32)), .val (.int b0), .val (.int (Int32.ofNat kk))] [(.int (Int32.ofNat kk)), (.ref t1)])) (fun t k => XS.iloadN X3.here hx rfl (hb hby own_d14_23) rfl k) ?_
      obtain ⟨c4, A4, q4, S4, M4, H4, U4⟩ := id pf0
      have hin4 := inb_of S4 (j := (Int32.ofNat kk)) ⟨(own_nneg (by omega)), (own_olt (by omega) (by omega))⟩
      have hat4 := Has.at H4 hin4 (v := (.int ((cs.getD kk 0).toInt8.toInt32))) (by rw [own_clamp (by omega)]; exact own_BS_at cs kk (by omega) _)
      refine own_via (T3.setTop (mkF m 25 #[.val (.ref t1), .val (.int (58 : Int32)), .val (.int b0), .val (.int (Int32.ofNat kk))] [(.int ((cs.getD kk 0).toInt8.toInt32))])) (fun t k => X3.baloadBytes hx (j := (Int32.ofNat kk)) (v := (.int ((cs.getD kk 0).toInt8.toInt32))) (by rw [e3]; exact A4.1) (State.isArrayOf_alike (hZ).alike A4.2.1) A4.2.2 hin4 hat4 (g := (mkF m 24 #[.val (.ref t1), .val (.int (58 : Int32)), .val (.int b0), .val (.int (Int32.ofNat kk))] [(.int (Int32.ofNat kk)), (.ref t1)])) rfl rfl (hb hby own_d14_24) t k) ?_
      refine own_via (T3.setTop (mkF m 26 #[.val (.ref t1), .val (.int (58 : Int32)), .val (.int b0), .val (.int (Int32.ofNat kk))] [(.int (58 : Int32)), (.int ((cs.getD kk 0).toInt8.toInt32))])) (fun t k => XS.iloadN X3.here hx rfl (hb hby own_d14_25) rfl k) ?_
      refine own_via (T3.setTop (mkF m 27 #[.val (.ref t1), .val (.int (58 : Int32)), .val (.int b0), .val (.int (Int32.ofNat kk))] [(.int (((58 : Int32)).toInt8.toInt32)), (.int ((cs.getD kk 0).toInt8.toInt32))])) (fun t k => XS.i2b X3.here hx rfl (hb hby own_d14_26) rfl k) ?_
      by_cases hq : ((cs.getD kk 0).toInt8.toInt32) = (((58 : Int32)).toInt8.toInt32)
      · refine own_via (T3.setTop (mkF m 30 #[.val (.ref t1), .val (.int (58 : Int32)), .val (.int b0), .val (.int (Int32.ofNat kk))] [])) (fun t k => XS.icmpNo X3.here hx rfl (hb hby own_d14_27) rfl (XT.ii_ne_f hq) k) ?_
        refine own_via (T3.setTop (mkF m 31 #[.val (.ref t1), .val (.int (58 : Int32)), .val (.int b0), .val (.int (Int32.ofNat kk))] [(.int (Int32.ofNat kk))])) (fun t k => XS.iloadN X3.here hx rfl (hb hby own_d14_30) rfl k) ?_
        exact own_retI X3 hx hlk hret (hb hby own_d14_31) e3 (⟨congrArg (fun z => some (Value.int z)) (by rw [← hk2, own_li1, if_pos (own_byte_inj (own_hpk hp (by omega)) (by decide) hq)]), N3, rfl⟩) (by decide) (by decide)
      · refine own_via (T3.setTop (mkF m 32 #[.val (.ref t1), .val (.int (58 : Int32)), .val (.int b0), .val (.int (Int32.ofNat kk))] [])) (fun t k => XS.icmpYes X3.here hx rfl (pc0 := 27) (pc' := 32) rfl (hb hby own_d14_27) rfl (XT.ii_ne_t hq) (by decide) (by decide) k) ?_
        refine own_via (T3.setTop (mkF m 35 #[.val (.ref t1), .val (.int (58 : Int32)), .val (.int b0), .val (.int ((Int32.ofNat kk) + (-1 : Int32)))] [])) (fun t k => XS.iinc X3.here hx rfl (hb hby own_d14_32) rfl (l' := #[.val (.ref t1), .val (.int (58 : Int32)), .val (.int b0), .val (.int ((Int32.ofNat kk) + (-1 : Int32)))]) rfl k) ?_
        rw [own_addm1]
        refine own_via (T3.setTop (mkF m 18 #[.val (.ref t1), .val (.int (58 : Int32)), .val (.int b0), .val (.int (Int32.ofNat kk - (1 : Int32)))] [])) (fun t k => XS.goto X3.here hx rfl (pc0 := 35) (pc' := 18) rfl (hb hby own_d14_35) (by decide) (by decide) k) ?_
        exact ih (by omega) (by rw [← hk2, own_li1, if_neg (fun z => hq (by rw [z]))])
  exact LP cs.length (Nat.le_refl _) rfl
theorem own_pn55416351 : plainFor (⟨"java/lang/String", "lastIndexOf", "(II)I"⟩ : MethodName) = true := by first | exact Jvm.Free.JP.mathPlain rfl (by decide +kernel) | exact plainFor_of_name (by first | (simp [plainName, overriddenIn]; done) | decide +kernel) | decide +kernel
theorem own_d12_0 : decode jdk_42_method_83_code 0 = .ok (.aload_n 0, 1) := by decide +kernel
theorem own_d12_1 : decode jdk_42_method_83_code 1 = .ok (.invokevirtual 492, 3) := by decide +kernel
theorem own_pd48405890 : parseMethodDescriptor "()Z" = some ⟨[], some .boolean⟩ := by decide +kernel
theorem own_d12_4 : decode jdk_42_method_83_code 4 = .ok (.ifCond .eq 15, 3) := by decide +kernel
theorem own_d12_7 : decode jdk_42_method_83_code 7 = .ok (.aload_n 0, 1) := by decide +kernel
theorem own_d12_8 : decode jdk_42_method_83_code 8 = .ok (.getfield 9, 3) := by decide +kernel
theorem own_d12_11 : decode jdk_42_method_83_code 11 = .ok (.iload_n 1, 1) := by decide +kernel
theorem own_d12_12 : decode jdk_42_method_83_code 12 = .ok (.iload_n 2, 1) := by decide +kernel
theorem own_d12_13 : decode jdk_42_method_83_code 13 = .ok (.invokestatic 644, 3) := by decide +kernel
theorem own_pd80783485 : parseMethodDescriptor "([BII)I" = some ⟨[(.array .byte), .int, .int], some .int⟩ := by decide +kernel
theorem own_d12_16 : decode jdk_42_method_83_code 16 = .ok (.goto 12, 3) := by decide +kernel
theorem own_d12_28 : decode jdk_42_method_83_code 28 = .ok (.ireturn, 1) := by decide +kernel
theorem own_ef_rm_last2 (m : MethodId) (x0 : Addr) (x2 : Int32) : entryFrame m #[(.ref x0), (.int (58 : Int32)), (.int x2)] 3 = mkF m 0 #[.val (.ref x0), .val (.int (58 : Int32)), .val (.int x2)] [] := by first | (simp [entryFrame, mkF, argsToLocals, Value.category]; done) | rfl
def Q_rm_last2 (Z : State) (a1 : Nat) (t1 : Nat) (kb : ClassId) (cs : List Int32) (b0 : Int32) (G1 : Int32) (h0 : Heap) (n0 : Nat) (v : Option Value) (h : Heap) (L : List Loc) : Prop := v = some (.int (own_li cs cs.length)) ∧ Fr n0 L ∧ h = h0
set_option maxRecDepth 65536 in
set_option maxHeartbeats 40000000 in
theorem rm_last2 (l : Launch) (Z : State) (a0 : Array Value) (hw : ∀ d ∈ tables_1, d.before a0 Z = true) (a1 : Nat) (t1 : Nat) (kb : ClassId) (cs : List Int32) (b0 : Int32) (G1 : Int32) (h0 : Heap) (n0 : Nat) (Z0 : n0 ≤ h0.size) (pf0 : Exa Z h0 a1 "java/lang/String") (pf1 : Fld Z h0 a1 "java/lang/String" "value" "[B" (.ref t1)) (pf2 : Fld Z h0 a1 "java/lang/String" "coder" "B" (.int (0 : Int32))) (pf3 : Arv Z h0 t1 kb .byte (Int32.ofNat cs.length) (own_BS cs) (.int 0)) (pf4 : Sta Z Z.heap "java/lang/String" "COMPACT_STRINGS" "Z" (.int G1)) (pf5 : Old Z n0 h0) (hz0 : b0 = Int32.ofNat cs.length - 1) (hl : cs.length ≤ 4) (hp : ∀ c ∈ cs, ¬ c < 0 ∧ ¬ (255 : Int32) < c) (hG1 : ¬ G1 = 0) :
    own_CT l Z (⟨"java/lang/String", "lastIndexOf", "(II)I"⟩ : MethodName) jdk_42_method_83_code 3 (some .int) ({ frames := 2, cells := 0, slots := 0, locals := 28 } : Room) #[(.ref a1), (.int (58 : Int32)), (.int b0)] h0 (Q_rm_last2 Z a1 t1 kb cs b0 G1 h0 n0) := by
  refine own_of own_pn55416351 (Ls := #[.val (.ref a1), .val (.int (58 : Int32)), .val (.int b0)]) (fun m => own_ef_rm_last2 m a1 b0) ?_
  intro p e s m below meth c T0 X0 hx hby hml hown hnm hret hZ e0 hlk
  have hown : s.vm.findClass "java/lang/String" = some m.cls := hown
  have N0 := Fr.nil n0
  have lt_a1 : @LT.lt Nat _ a1 h0.size := pf0.lt
  have lt_t1 : @LT.lt Nat _ t1 h0.size := pf3.lt
  refine own_via (T0.setTop (mkF m 1 #[.val (.ref a1), .val (.int (58 : Int32)), .val (.int b0)] [(.ref a1)])) (fun t k => XS.aloadN X0.here hx rfl (hb hby own_d12_0) rfl rfl k) ?_
  obtain ⟨v1, T1, h1, L1, X1, e1, q1, st1⟩ := own_cV X0 hx hZ (y := (⟨"java/lang/String", "isLatin1", "()Z"⟩ : MethodName)) (z := (⟨"java/lang/String", "isLatin1", "()Z"⟩ : MethodName)) hown (hw _ (List.mem_of_getElem? (i := 58) rfl)) (hw _ (List.mem_of_getElem? (i := 59) rfl)) (notFace_of_selects (args := #[]) (mvT hZ (hw _ (List.mem_of_getElem? (i := 61) rfl)))) (hw _ (List.mem_of_getElem? (i := 61) rfl)) (hw _ (List.mem_of_getElem? (i := 60) rfl)) (by decide) (W := 0) (own_bk (rm_isLatin1 l Z a0 hw a1 G1 h0 n0 (by omega) pf2 pf4 pf5 hG1) hZ (hw _ (List.mem_of_getElem? (i := 62) rfl)) (hw _ (List.mem_of_getElem? (i := 6) rfl)) (by decide) (by decide)) e0 pf0 (Ls := #[.val (.ref a1), .val (.int (58 : Int32)), .val (.int b0)]) (by rw [hml]; rfl) (argsL := []) (rest := []) rfl (lenOf own_pd48405890 rfl) rfl (Nat.le_of_eq rfl) (hb hby own_d12_1) (by decide) (by decide)
  obtain ⟨rfl, Nq1, eq1⟩ := q1
  have N1 := Fr.app N0 Nq1
  replace e1 := e1.trans eq1
  refine own_via (T1.setTop (mkF m 4 #[.val (.ref a1), .val (.int (58 : Int32)), .val (.int b0)] [(.int (1 : Int32))])) (st1) ?_
  refine own_via (T1.setTop (mkF m 7 #[.val (.ref a1), .val (.int (58 : Int32)), .val (.int b0)] [])) (fun t k => XS.ifNo X1.here hx rfl (hb hby own_d12_4) rfl (by decide) k) ?_
  refine own_via (T1.setTop (mkF m 8 #[.val (.ref a1), .val (.int (58 : Int32)), .val (.int b0)] [(.ref a1)])) (fun t k => XS.aloadN X1.here hx rfl (hb hby own_d12_7) rfl rfl k) ?_
  obtain ⟨T2, X2, e2, st2⟩ := getF X1 hx hZ hown (host := "") (Or.inl (hw _ (List.mem_of_getElem? (i := 32) rfl))) Via.refl e1 pf1 (g := (mkF m 8 #[.val (.ref a1), .val (.int (58 : Int32)), .val (.int b0)] [(.ref a1)])) rfl rfl (hb hby own_d12_8)
  refine own_via (T2.setTop (mkF m 11 #[.val (.ref a1), .val (.int (58 : Int32)), .val (.int b0)] [(.ref t1)])) (st2) ?_
  refine own_via (T2.setTop (mkF m 12 #[.val (.ref a1), .val (.int (58 : Int32)), .val (.int b0)] [(.int (58 : Int32)), (.ref t1)])) (fun t k => XS.iloadN X2.here hx rfl (hb hby own_d12_11) rfl k) ?_
  refine own_via (T2.setTop (mkF m 13 #[.val (.ref a1), .val (.int (58 : Int32)), .val (.int b0)] [(.int b0), (.int (58 : Int32)), (.ref t1)])) (fun t k => XS.iloadN X2.here hx rfl (hb hby own_d12_12) rfl k) ?_
  obtain ⟨v3, T3, h3, L3, X3, e3, q3, st3⟩ := own_cS X2 hx hZ hown (hw _ (List.mem_of_getElem? (i := 63) rfl)) (hw _ (List.mem_of_getElem? (i := 64) rfl)) (hw _ (List.mem_of_getElem? (i := 65) rfl)) (hw _ (List.mem_of_getElem? (i := 66) rfl)) (by decide) (W := 0) (own_bk (rm_l1last l Z a0 hw t1 kb cs b0 h0 n0 (by omega) pf3 hz0 hl hp) hZ (hw _ (List.mem_of_getElem? (i := 66) rfl)) (hw _ (List.mem_of_getElem? (i := 65) rfl)) (by decide) (by decide)) e2 (Ls := #[.val (.ref a1), .val (.int (58 : Int32)), .val (.int b0)]) (by rw [hml]; rfl) (argsL := [(.ref t1), (.int (58 : Int32)), (.int b0)]) (rest := []) rfl (lenOf own_pd80783485 rfl) rfl (Nat.le_of_eq rfl) (hb hby own_d12_13) (by decide) (by decide)
  obtain ⟨rfl, Nq3, eq3⟩ := q3
  have N3 := Fr.app N1 Nq3
  replace e3 := e3.trans eq3
  refine own_via (T3.setTop (mkF m 16 #[.val (.ref a1), .val (.int (58 : Int32)), .val (.int b0)] [(.int (own_li cs cs.length))])) (st3) ?_
  refine own_via (T3.setTop (mkF m 28 #[.val (.ref a1), .val (.int (58 : Int32)), .val (.int b0)] [(.int (own_li cs cs.length))])) (fun t k => XS.goto X3.here hx rfl (pc0 := 16) (pc' := 28) rfl (hb hby own_d12_16) (by decide) (by decide) k) ?_
  exact own_retI X3 hx hlk hret (hb hby own_d12_28) e3 (⟨rfl, N3, rfl⟩) (by decide) (by decide)
theorem own_pn64133781 : plainFor (⟨"java/lang/String", "lastIndexOf", "(I)I"⟩ : MethodName) = true := by first | exact Jvm.Free.JP.mathPlain rfl (by decide +kernel) | exact plainFor_of_name (by first | (simp [plainName, overriddenIn]; done) | decide +kernel) | decide +kernel
theorem own_d9_0 : decode jdk_42_method_82_code 0 = .ok (.aload_n 0, 1) := by decide +kernel
theorem own_d9_1 : decode jdk_42_method_82_code 1 = .ok (.iload_n 1, 1) := by decide +kernel
theorem own_d9_2 : decode jdk_42_method_82_code 2 = .ok (.aload_n 0, 1) := by decide +kernel
theorem own_d9_3 : decode jdk_42_method_82_code 3 = .ok (.invokevirtual 505, 3) := by decide +kernel
theorem own_pd93735326 : parseMethodDescriptor "()I" = some ⟨[], some .int⟩ := by decide +kernel
theorem own_d9_6 : decode jdk_42_method_82_code 6 = .ok (.iconst 1, 1) := by decide +kernel
theorem own_d9_7 : decode jdk_42_method_82_code 7 = .ok (.isub, 1) := by decide +kernel
theorem own_d9_8 : decode jdk_42_method_82_code 8 = .ok (.invokevirtual 641, 3) := by decide +kernel
theorem own_d9_11 : decode jdk_42_method_82_code 11 = .ok (.ireturn, 1) := by decide +kernel
theorem own_ef_rm_last1 (m : MethodId) (x0 : Addr) : entryFrame m #[(.ref x0), (.int (58 : Int32))] 2 = mkF m 0 #[.val (.ref x0), .val (.int (58 : Int32))] [] := by first | (simp [entryFrame, mkF, argsToLocals, Value.category]; done) | rfl
def Q_rm_last1 (Z : State) (a1 : Nat) (t1 : Nat) (kb : ClassId) (cs : List Int32) (G1 : Int32) (h0 : Heap) (n0 : Nat) (v : Option Value) (h : Heap) (L : List Loc) : Prop := v = some (.int (own_li cs cs.length)) ∧ Fr n0 L ∧ h = h0
set_option maxRecDepth 65536 in
set_option maxHeartbeats 40000000 in
theorem rm_last1 (l : Launch) (Z : State) (a0 : Array Value) (hw : ∀ d ∈ tables_1, d.before a0 Z = true) (a1 : Nat) (t1 : Nat) (kb : ClassId) (cs : List Int32) (G1 : Int32) (h0 : Heap) (n0 : Nat) (Z0 : n0 ≤ h0.size) (pf0 : Exa Z h0 a1 "java/lang/String") (pf1 : Fld Z h0 a1 "java/lang/String" "value" "[B" (.ref t1)) (pf2 : Fld Z h0 a1 "java/lang/String" "coder" "B" (.int (0 : Int32))) (pf3 : Arv Z h0 t1 kb .byte (Int32.ofNat cs.length) (own_BS cs) (.int 0)) (pf4 : Sta Z Z.heap "java/lang/String" "COMPACT_STRINGS" "Z" (.int G1)) (pf5 : Old Z n0 h0) (hl : cs.length ≤ 4) (hp : ∀ c ∈ cs, ¬ c < 0 ∧ ¬ (255 : Int32) < c) (hG1 : ¬ G1 = 0) :
    own_CT l Z (⟨"java/lang/String", "lastIndexOf", "(I)I"⟩ : MethodName) jdk_42_method_82_code 2 (some .int) ({ frames := 3, cells := 0, slots := 0, locals := 42 } : Room) #[(.ref a1), (.int (58 : Int32))] h0 (Q_rm_last1 Z a1 t1 kb cs G1 h0 n0) := by
  refine own_of own_pn64133781 (Ls := #[.val (.ref a1), .val (.int (58 : Int32))]) (fun m => own_ef_rm_last1 m a1) ?_
  intro p e s m below meth c T0 X0 hx hby hml hown hnm hret hZ e0 hlk
  have hown : s.vm.findClass "java/lang/String" = some m.cls := hown
  have N0 := Fr.nil n0
  have lt_a1 : @LT.lt Nat _ a1 h0.size := pf0.lt
  have lt_t1 : @LT.lt Nat _ t1 h0.size := pf3.lt
  refine own_via (T0.setTop (mkF m 1 #[.val (.ref a1), .val (.int (58 : Int32))] [(.ref a1)])) (fun t k => XS.aloadN X0.here hx rfl (hb hby own_d9_0) rfl rfl k) ?_
  refine own_via (T0.setTop (mkF m 2 #[.val (.ref a1), .val (.int (58 : Int32))] [(.int (58 : Int32)), (.ref a1)])) (fun t k => XS.iloadN X0.here hx rfl (hb hby own_d9_1) rfl k) ?_
  refine own_via (T0.setTop (mkF m 3 #[.val (.ref a1), .val (.int (58 : Int32))] [(.ref a1), (.int (58 : Int32)), (.ref a1)])) (fun t k => XS.aloadN X0.here hx rfl (hb hby own_d9_2) rfl rfl k) ?_
  have hcd1 := StrChars.Road.codOf (cs := cs) (n := (cs : List Int32).length) rfl (fun c hc => (hp c hc).2)
  have hbd2 : ∀ c ∈ (cs : List Int32), ¬ c < 0 ∧ ¬ (65535 : Int32) < c := fun c hc => own_up (hp c hc)
  obtain ⟨v3, T3, h3, L3, X3, e3, q3, st3⟩ := own_cV X0 hx hZ (y := (⟨"java/lang/String", "length", "()I"⟩ : MethodName)) (z := (⟨"java/lang/String", "length", "()I"⟩ : MethodName)) hown (hw _ (List.mem_of_getElem? (i := 43) rfl)) (hw _ (List.mem_of_getElem? (i := 44) rfl)) (notFace_of_selects (args := #[]) (mvT hZ (hw _ (List.mem_of_getElem? (i := 46) rfl)))) (hw _ (List.mem_of_getElem? (i := 46) rfl)) (hw _ (List.mem_of_getElem? (i := 45) rfl)) (by decide) (W := 2) (k := 0) (j := 0) (Q := fun v h' L => v = some (.int (Int32.ofNat (cs : List Int32).length)) ∧ L = [] ∧ h' = h0) (StrChars.Road.lenW (cs := cs) hZ (own_hln hw) (kI := 4) (hw _ (List.mem_of_getElem? (i := 5) rfl)) pf0 pf1 pf2 pf3 hcd1 hbd2 (pf4.ext pf5.2) hG1 (by omega) (by decide) (by decide)) e0 pf0 (Ls := #[.val (.ref a1), .val (.int (58 : Int32))]) (by rw [hml]; rfl) (argsL := []) (rest := [(.int (58 : Int32)), (.ref a1)]) rfl (lenOf own_pd93735326 rfl) rfl (Nat.le_of_eq rfl) (hb hby own_d9_3) (by decide) (by decide)
  obtain ⟨rfl, rfl, eq3⟩ := q3
  replace e3 := e3.trans eq3
  have N3 := Fr.app N0 (Fr.nil n0)
  refine own_via (T3.setTop (mkF m 6 #[.val (.ref a1), .val (.int (58 : Int32))] [(.int (Int32.ofNat (cs : List Int32).length)), (.int (58 : Int32)), (.ref a1)])) (st3) ?_
  refine own_via (T3.setTop (mkF m 7 #[.val (.ref a1), .val (.int (58 : Int32))] [(.int (1 : Int32)), (.int (Int32.ofNat (cs : List Int32).length)), (.int (58 : Int32)), (.ref a1)])) (fun t k => XS.iconst X3.here hx rfl (hb hby own_d9_6) k) ?_
  refine own_via (T3.setTop (mkF m 8 #[.val (.ref a1), .val (.int (58 : Int32))] [(.int ((Int32.ofNat (cs : List Int32).length) - (1 : Int32))), (.int (58 : Int32)), (.ref a1)])) (fun t k => XS.isub X3.here hx rfl (hb hby own_d9_7) rfl k) ?_
  obtain ⟨v4, T4, h4, L4, X4, e4, q4, st4⟩ := own_cV X3 hx hZ (y := (⟨"java/lang/String", "lastIndexOf", "(II)I"⟩ : MethodName)) (z := (⟨"java/lang/String", "lastIndexOf", "(II)I"⟩ : MethodName)) hown (hw _ (List.mem_of_getElem? (i := 53) rfl)) (hw _ (List.mem_of_getElem? (i := 54) rfl)) (notFace_of_selects (args := #[]) (mvT hZ (hw _ (List.mem_of_getElem? (i := 56) rfl)))) (hw _ (List.mem_of_getElem? (i := 56) rfl)) (hw _ (List.mem_of_getElem? (i := 55) rfl)) (by decide) (W := 0) (own_bk (rm_last2 l Z a0 hw a1 t1 kb cs ((Int32.ofNat (cs : List Int32).length) - (1 : Int32)) G1 h0 n0 (by omega) pf0 pf1 pf2 pf3 pf4 pf5 rfl hl hp hG1) hZ (hw _ (List.mem_of_getElem? (i := 57) rfl)) (hw _ (List.mem_of_getElem? (i := 6) rfl)) (by decide) (by decide)) e3 pf0 (Ls := #[.val (.ref a1), .val (.int (58 : Int32))]) (by rw [hml]; rfl) (argsL := [(.int (58 : Int32)), (.int ((Int32.ofNat (cs : List Int32).length) - (1 : Int32)))]) (rest := []) rfl (lenOf own_pd17926884 rfl) rfl (Nat.le_of_eq rfl) (hb hby own_d9_8) (by decide) (by decide)
  obtain ⟨rfl, Nq4, eq4⟩ := q4
  have N4 := Fr.app N3 Nq4
  replace e4 := e4.trans eq4
  refine own_via (T4.setTop (mkF m 11 #[.val (.ref a1), .val (.int (58 : Int32))] [(.int (own_li cs cs.length))])) (st4) ?_
  exact own_retI X4 hx hlk hret (hb hby own_d9_11) e4 (⟨rfl, N4, rfl⟩) (by decide) (by decide)
theorem own_pn7918761 : plainFor (⟨"java/lang/String", "<init>", "([BB)V"⟩ : MethodName) = true := by first | exact Jvm.Free.JP.mathPlain rfl (by decide +kernel) | exact plainFor_of_name (by first | (simp [plainName, overriddenIn]; done) | decide +kernel) | decide +kernel
theorem own_d24_0 : decode jdk_42_method_151_code 0 = .ok (.aload_n 0, 1) := by decide +kernel
theorem own_d24_1 : decode jdk_42_method_151_code 1 = .ok (.invokespecial 1, 3) := by decide +kernel
theorem own_d24_4 : decode jdk_42_method_151_code 4 = .ok (.aload_n 0, 1) := by decide +kernel
theorem own_d24_5 : decode jdk_42_method_151_code 5 = .ok (.aload_n 1, 1) := by decide +kernel
theorem own_d24_6 : decode jdk_42_method_151_code 6 = .ok (.putfield 9, 3) := by decide +kernel
theorem own_d24_9 : decode jdk_42_method_151_code 9 = .ok (.aload_n 0, 1) := by decide +kernel
theorem own_d24_10 : decode jdk_42_method_151_code 10 = .ok (.iload_n 2, 1) := by decide +kernel
theorem own_d24_11 : decode jdk_42_method_151_code 11 = .ok (.putfield 15, 3) := by decide +kernel
theorem own_d24_14 : decode jdk_42_method_151_code 14 = .ok (.return_, 1) := by decide +kernel
theorem own_ef_rm_initBB (m : MethodId) (x0 : Addr) (x1 : Addr) : entryFrame m #[(.ref x0), (.ref x1), (.int (0 : Int32))] 3 = mkF m 0 #[.val (.ref x0), .val (.ref x1), .val (.int (0 : Int32))] [] := by first | (simp [entryFrame, mkF, argsToLocals, Value.category]; done) | rfl
def Q_rm_initBB (Z : State) (a1 : Nat) (t1 : Nat) (u0 : Value) (u1 : Value) (h0 : Heap) (n0 : Nat) (v : Option Value) (h : Heap) (L : List Loc) : Prop := v = none ∧ Fr n0 L ∧ Keep h0 h [a1] ∧ Exa Z h a1 "java/lang/String" ∧ Fld Z h a1 "java/lang/String" "value" "[B" (.ref t1) ∧ Fld Z h a1 "java/lang/String" "coder" "B" (.int (0 : Int32))
set_option maxRecDepth 65536 in
set_option maxHeartbeats 40000000 in
theorem rm_initBB (l : Launch) (Z : State) (a0 : Array Value) (hw : ∀ d ∈ tables_1, d.before a0 Z = true) (a1 : Nat) (t1 : Nat) (u0 : Value) (u1 : Value) (h0 : Heap) (n0 : Nat) (Z0 : n0 ≤ h0.size) (pf0 : Exa Z h0 a1 "java/lang/String") (pf1 : Fld Z h0 a1 "java/lang/String" "value" "[B" u0) (pf2 : Fld Z h0 a1 "java/lang/String" "coder" "B" u1) (g1 : n0 ≤ a1) :
    own_CT l Z (⟨"java/lang/String", "<init>", "([BB)V"⟩ : MethodName) jdk_42_method_151_code 3 none ({ frames := 1, cells := 0, slots := 0, locals := 12 } : Room) #[(.ref a1), (.ref t1), (.int (0 : Int32))] h0 (Q_rm_initBB Z a1 t1 u0 u1 h0 n0) := by
  refine own_of own_pn7918761 (Ls := #[.val (.ref a1), .val (.ref t1), .val (.int (0 : Int32))]) (fun m => own_ef_rm_initBB m a1 t1) ?_
  intro p e s m below meth c T0 X0 hx hby hml hown hnm hret hZ e0 hlk
  have hown : s.vm.findClass "java/lang/String" = some m.cls := hown
  have N0 := Fr.nil n0
  have lt_a1 : @LT.lt Nat _ a1 h0.size := pf0.lt
  refine own_via (T0.setTop (mkF m 1 #[.val (.ref a1), .val (.ref t1), .val (.int (0 : Int32))] [(.ref a1)])) (fun t k => XS.aloadN X0.here hx rfl (hb hby own_d24_0) rfl rfl k) ?_
  obtain ⟨T1, X1, e1, st1⟩ := initO X0 hx hZ hown (hw _ (List.mem_of_getElem? (i := 15) rfl)) (hw _ (List.mem_of_getElem? (i := 16) rfl)) (hw _ (List.mem_of_getElem? (i := 17) rfl)) e0 (g := (mkF m 1 #[.val (.ref a1), .val (.ref t1), .val (.int (0 : Int32))] [(.ref a1)])) rfl (by rw [hml]; rfl) rfl (hb hby own_d24_1) (by decide) (W := 0) (by show 2 * 0 + _ ≤ _; exact Nat.le_of_eq rfl) (by decide)
  refine own_via (T1.setTop (mkF m 4 #[.val (.ref a1), .val (.ref t1), .val (.int (0 : Int32))] [])) (st1) ?_
  refine own_via (T1.setTop (mkF m 5 #[.val (.ref a1), .val (.ref t1), .val (.int (0 : Int32))] [(.ref a1)])) (fun t k => XS.aloadN X1.here hx rfl (hb hby own_d24_4) rfl rfl k) ?_
  refine own_via (T1.setTop (mkF m 6 #[.val (.ref a1), .val (.ref t1), .val (.int (0 : Int32))] [(.ref t1), (.ref a1)])) (fun t k => XS.aloadN X1.here hx rfl (hb hby own_d24_5) rfl rfl k) ?_
  obtain ⟨T2, h2, X2, e2, W2, st2⟩ := putF X1 hx hZ hown (host := "") (Or.inl (hw _ (List.mem_of_getElem? (i := 32) rfl))) Via.refl e1 pf1 pf0 (Or.inr ⟨(hw _ (List.mem_of_getElem? (i := 33) rfl)), rfl, hnm⟩) (hw _ (List.mem_of_getElem? (i := 5) rfl)) (ty := (.array .byte)) (by decide) rfl rfl (g := (mkF m 6 #[.val (.ref a1), .val (.ref t1), .val (.int (0 : Int32))] [(.ref t1), (.ref a1)])) rfl rfl (hb hby own_d24_6)
  have N2 := Fr.snoc X2 N0 (show @LE.le Nat _ _ _ by omega)
  have sz_h2 : h2.size = h0.size := Wr.size W2
  have K_h2 : Keep h0 h2 [a1] := (Keep.refl h0 [a1]).wr W2 (Or.inl (List.mem_of_getElem? (i := 0) rfl))
  have f3 : Fld Z h2 a1 "java/lang/String" "value" "[B" (.ref t1) := (pf1.same W2)
  refine own_via (T2.setTop (mkF m 9 #[.val (.ref a1), .val (.ref t1), .val (.int (0 : Int32))] [])) (st2) ?_
  refine own_via (T2.setTop (mkF m 10 #[.val (.ref a1), .val (.ref t1), .val (.int (0 : Int32))] [(.ref a1)])) (fun t k => XS.aloadN X2.here hx rfl (hb hby own_d24_9) rfl rfl k) ?_
  refine own_via (T2.setTop (mkF m 11 #[.val (.ref a1), .val (.ref t1), .val (.int (0 : Int32))] [(.int (0 : Int32)), (.ref a1)])) (fun t k => XS.iloadN X2.here hx rfl (hb hby own_d24_10) rfl k) ?_
  have f4 : Fld Z h2 a1 "java/lang/String" "coder" "B" u1 := (pf2.other W2 (Or.inr (slot_ne (Or.inr (hw _ (List.mem_of_getElem? (i := 31) rfl))) (Or.inr (hw _ (List.mem_of_getElem? (i := 33) rfl))) (by decide) (t := .byte) (t' := (.array .byte)) (by decide) (by decide))))
  have f5 : Exa Z h2 a1 "java/lang/String" := (pf0.wr W2)
  obtain ⟨T6, h6, X6, e6, W6, st6⟩ := putF X2 hx hZ hown (host := "") (Or.inl (hw _ (List.mem_of_getElem? (i := 30) rfl))) Via.refl e2 f4 f5 (Or.inr ⟨(hw _ (List.mem_of_getElem? (i := 31) rfl)), rfl, hnm⟩) (hw _ (List.mem_of_getElem? (i := 5) rfl)) (ty := .byte) (by decide) rfl rfl (g := (mkF m 11 #[.val (.ref a1), .val (.ref t1), .val (.int (0 : Int32))] [(.int (0 : Int32)), (.ref a1)])) rfl rfl (hb hby own_d24_11)
  have N6 := Fr.snoc X6 N2 (show @LE.le Nat _ _ _ by omega)
  have sz_h6 : h6.size = h2.size := Wr.size W6
  have K_h6 : Keep h0 h6 [a1] := K_h2.wr W6 (Or.inl (List.mem_of_getElem? (i := 0) rfl))
  have f7 : Fld Z h6 a1 "java/lang/String" "coder" "B" (.int (0 : Int32)) := (f4.same W6)
  refine own_via (T6.setTop (mkF m 14 #[.val (.ref a1), .val (.ref t1), .val (.int (0 : Int32))] [])) (st6) ?_
  have f8 : Exa Z h6 a1 "java/lang/String" := (f5.wr W6)
  have f9 : Fld Z h6 a1 "java/lang/String" "value" "[B" (.ref t1) := (f3.other W6 (Or.inr (slot_ne (Or.inr (hw _ (List.mem_of_getElem? (i := 33) rfl))) (Or.inr (hw _ (List.mem_of_getElem? (i := 31) rfl))) (by decide) (t := (.array .byte)) (t' := .byte) (by decide) (by decide))))
  exact own_ret0 X6 hx hlk hret (hb hby own_d24_14) e6 (⟨rfl, N6, K_h6, f8, f9, f7⟩) (by decide) (by decide)
theorem own_pn79375100 : plainFor (⟨"java/util/Arrays", "checkLength", "(II)V"⟩ : MethodName) = true := by first | exact Jvm.Free.JP.mathPlain rfl (by decide +kernel) | exact plainFor_of_name (by first | (simp [plainName, overriddenIn]; done) | decide +kernel) | decide +kernel
theorem own_d23_0 : decode jdk_65_method_131_code 0 = .ok (.iload_n 1, 1) := by decide +kernel
theorem own_d23_1 : decode jdk_65_method_131_code 1 = .ok (.iload_n 0, 1) := by decide +kernel
theorem own_d23_2 : decode jdk_65_method_131_code 2 = .ok (.if_icmp .ge 35, 3) := by decide +kernel
theorem own_d23_37 : decode jdk_65_method_131_code 37 = .ok (.return_, 1) := by decide +kernel
theorem own_ef_rm_chkLen (m : MethodId) (x0 : Int32) (x1 : Int32) : entryFrame m #[(.int x0), (.int x1)] 2 = mkF m 0 #[.val (.int x0), .val (.int x1)] [] := by first | (simp [entryFrame, mkF, argsToLocals, Value.category]; done) | rfl
def Q_rm_chkLen (Z : State) (b0 : Int32) (b1 : Int32) (h0 : Heap) (n0 : Nat) (v : Option Value) (h : Heap) (L : List Loc) : Prop := v = none ∧ Fr n0 L ∧ h = h0
set_option maxRecDepth 65536 in
set_option maxHeartbeats 40000000 in
theorem rm_chkLen (l : Launch) (Z : State) (a0 : Array Value) (hw : ∀ d ∈ tables_1, d.before a0 Z = true) (b0 : Int32) (b1 : Int32) (h0 : Heap) (n0 : Nat) (Z0 : n0 ≤ h0.size) (h1 : ¬ b1 < b0) :
    own_CT l Z (⟨"java/util/Arrays", "checkLength", "(II)V"⟩ : MethodName) jdk_65_method_131_code 2 none ({ frames := 0, cells := 0, slots := 0, locals := 0 } : Room) #[(.int b0), (.int b1)] h0 (Q_rm_chkLen Z b0 b1 h0 n0) := by
  refine own_of own_pn79375100 (Ls := #[.val (.int b0), .val (.int b1)]) (fun m => own_ef_rm_chkLen m b0 b1) ?_
  intro p e s m below meth c T0 X0 hx hby hml hown hnm hret hZ e0 hlk
  have hown : s.vm.findClass "java/util/Arrays" = some m.cls := hown
  have N0 := Fr.nil n0
  refine own_via (T0.setTop (mkF m 1 #[.val (.int b0), .val (.int b1)] [(.int b1)])) (fun t k => XS.iloadN X0.here hx rfl (hb hby own_d23_0) rfl k) ?_
  refine own_via (T0.setTop (mkF m 2 #[.val (.int b0), .val (.int b1)] [(.int b0), (.int b1)])) (fun t k => XS.iloadN X0.here hx rfl (hb hby own_d23_1) rfl k) ?_
  refine own_via (T0.setTop (mkF m 37 #[.val (.int b0), .val (.int b1)] [])) (fun t k => XS.icmpYes X0.here hx rfl (pc0 := 2) (pc' := 37) rfl (hb hby own_d23_2) rfl (XT.ii_ge_t h1) (by decide) (by decide) k) ?_
  exact own_ret0 X0 hx hlk hret (hb hby own_d23_37) e0 (⟨rfl, N0, rfl⟩) (by decide) (by decide)
theorem own_pn97823215 : plainFor (⟨"java/util/Arrays", "copyOfRangeByte", "([BII)[B"⟩ : MethodName) = true := by first | exact Jvm.Free.JP.mathPlain rfl (by decide +kernel) | exact plainFor_of_name (by first | (simp [plainName, overriddenIn]; done) | decide +kernel) | decide +kernel
theorem own_d22_0 : decode jdk_65_method_133_code 0 = .ok (.iload_n 1, 1) := by decide +kernel
theorem own_d22_1 : decode jdk_65_method_133_code 1 = .ok (.iload_n 2, 1) := by decide +kernel
theorem own_d22_2 : decode jdk_65_method_133_code 2 = .ok (.invokestatic 343, 3) := by decide +kernel
theorem own_pd87190746 : parseMethodDescriptor "(II)V" = some ⟨[.int, .int], none⟩ := by decide +kernel
theorem own_d22_5 : decode jdk_65_method_133_code 5 = .ok (.iload_n 2, 1) := by decide +kernel
theorem own_d22_6 : decode jdk_65_method_133_code 6 = .ok (.iload_n 1, 1) := by decide +kernel
theorem own_d22_7 : decode jdk_65_method_133_code 7 = .ok (.isub, 1) := by decide +kernel
theorem own_d22_8 : decode jdk_65_method_133_code 8 = .ok (.istore_n 3, 1) := by decide +kernel
theorem own_d22_9 : decode jdk_65_method_133_code 9 = .ok (.iload_n 3, 1) := by decide +kernel
theorem own_d22_10 : decode jdk_65_method_133_code 10 = .ok (.newarray .byte, 2) := by decide +kernel
theorem own_d22_12 : decode jdk_65_method_133_code 12 = .ok (.astore 4, 2) := by decide +kernel
theorem own_d22_14 : decode jdk_65_method_133_code 14 = .ok (.aload_n 0, 1) := by decide +kernel
theorem own_d22_15 : decode jdk_65_method_133_code 15 = .ok (.iload_n 1, 1) := by decide +kernel
theorem own_d22_16 : decode jdk_65_method_133_code 16 = .ok (.aload 4, 2) := by decide +kernel
theorem own_d22_18 : decode jdk_65_method_133_code 18 = .ok (.iconst 0, 1) := by decide +kernel
theorem own_d22_19 : decode jdk_65_method_133_code 19 = .ok (.aload_n 0, 1) := by decide +kernel
theorem own_d22_20 : decode jdk_65_method_133_code 20 = .ok (.arraylength, 1) := by decide +kernel
theorem own_d22_21 : decode jdk_65_method_133_code 21 = .ok (.iload_n 1, 1) := by decide +kernel
theorem own_d22_22 : decode jdk_65_method_133_code 22 = .ok (.isub, 1) := by decide +kernel
theorem own_d22_23 : decode jdk_65_method_133_code 23 = .ok (.iload_n 3, 1) := by decide +kernel
theorem own_d22_24 : decode jdk_65_method_133_code 24 = .ok (.invokestatic 304, 3) := by decide +kernel
theorem own_d22_27 : decode jdk_65_method_133_code 27 = .ok (.invokestatic 150, 3) := by decide +kernel
theorem own_d22_30 : decode jdk_65_method_133_code 30 = .ok (.aload 4, 2) := by decide +kernel
theorem own_d22_32 : decode jdk_65_method_133_code 32 = .ok (.areturn, 1) := by decide +kernel
theorem own_ef_rm_copyB (m : MethodId) (x0 : Addr) (x1 : Int32) (x2 : Int32) : entryFrame m #[(.ref x0), (.int x1), (.int x2)] 5 = mkF m 0 #[.val (.ref x0), .val (.int x1), .val (.int x2), .unset, .unset] [] := by first | (simp [entryFrame, mkF, argsToLocals, Value.category]; done) | rfl
def Q_rm_copyB (Z : State) (t1 : Nat) (kb : ClassId) (cs : List Int32) (b0 : Int32) (b1 : Int32) (ia : Nat) (mm : Nat) (h0 : Heap) (n0 : Nat) (v : Option Value) (h : Heap) (L : List Loc) : Prop := ∃ (b : Nat) (kc : ClassId), v = some (.ref b) ∧ Fr n0 L ∧ Keep h0 h [] ∧ Arv Z h b kc .byte (Int32.ofNat ((cs.drop ia).take mm).length) (own_BS ((cs.drop ia).take mm)) (.int 0) ∧ @LE.le Nat _ h0.size b
set_option maxRecDepth 65536 in
set_option maxHeartbeats 40000000 in
theorem rm_copyB (l : Launch) (Z : State) (a0 : Array Value) (hw : ∀ d ∈ tables_1, d.before a0 Z = true) (t1 : Nat) (kb : ClassId) (cs : List Int32) (b0 : Int32) (b1 : Int32) (ia : Nat) (mm : Nat) (h0 : Heap) (n0 : Nat) (Z0 : n0 ≤ h0.size) (pf0 : Arv Z h0 t1 kb .byte (Int32.ofNat cs.length) (own_BS cs) (.int 0)) (hb0 : b0 = Int32.ofNat ia) (hb1 : b1 = Int32.ofNat (ia + mm)) (hle : ia + mm ≤ cs.length) (hl : cs.length ≤ 4) :
    own_CT l Z (⟨"java/util/Arrays", "copyOfRangeByte", "([BII)[B"⟩ : MethodName) jdk_65_method_133_code 5 (some (.array .byte)) ({ frames := 1, cells := 1, slots := 4, locals := 40 } : Room) #[(.ref t1), (.int b0), (.int b1)] h0 (Q_rm_copyB Z t1 kb cs b0 b1 ia mm h0 n0) := by
  refine own_of own_pn97823215 (Ls := #[.val (.ref t1), .val (.int b0), .val (.int b1), .unset, .unset]) (fun m => own_ef_rm_copyB m t1 b0 b1) ?_
  intro p e s m below meth c T0 X0 hx hby hml hown hnm hret hZ e0 hlk
  have hown : s.vm.findClass "java/util/Arrays" = some m.cls := hown
  have N0 := Fr.nil n0
  have lt_t1 : @LT.lt Nat _ t1 h0.size := pf0.lt
  subst hb0
  subst hb1
  refine own_via (T0.setTop (mkF m 1 #[.val (.ref t1), .val (.int (Int32.ofNat ia)), .val (.int (Int32.ofNat (ia + mm))), .unset, .unset] [(.int (Int32.ofNat ia))])) (fun t k => XS.iloadN X0.here hx rfl (hb hby own_d22_0) rfl k) ?_
  refine own_via (T0.setTop (mkF m 2 #[.val (.ref t1), .val (.int (Int32.ofNat ia)), .val (.int (Int32.ofNat (ia + mm))), .unset, .unset] [(.int (Int32.ofNat (ia + mm))), (.int (Int32.ofNat ia))])) (fun t k => XS.iloadN X0.here hx rfl (hb hby own_d22_1) rfl k) ?_
  obtain ⟨v1, T1, h1, L1, X1, e1, q1, st1⟩ := own_cS X0 hx hZ hown (hw _ (List.mem_of_getElem? (i := 102) rfl)) (hw _ (List.mem_of_getElem? (i := 103) rfl)) (hw _ (List.mem_of_getElem? (i := 97) rfl)) (hw _ (List.mem_of_getElem? (i := 104) rfl)) (by decide) (W := 0) (own_bk (rm_chkLen l Z a0 hw (Int32.ofNat ia) (Int32.ofNat (ia + mm)) h0 n0 (by omega) (own_onlt (by omega) (by omega))) hZ (hw _ (List.mem_of_getElem? (i := 104) rfl)) (hw _ (List.mem_of_getElem? (i := 97) rfl)) (by decide) (by decide)) e0 (Ls := #[.val (.ref t1), .val (.int (Int32.ofNat ia)), .val (.int (Int32.ofNat (ia + mm))), .unset, .unset]) (by rw [hml]; rfl) (argsL := [(.int (Int32.ofNat ia)), (.int (Int32.ofNat (ia + mm)))]) (rest := []) rfl (lenOf own_pd87190746 rfl) rfl (Nat.le_of_eq rfl) (hb hby own_d22_2) (by decide) (by decide)
  obtain ⟨rfl, Nq1, eq1⟩ := q1
  have N1 := Fr.app N0 Nq1
  replace e1 := e1.trans eq1
  refine own_via (T1.setTop (mkF m 5 #[.val (.ref t1), .val (.int (Int32.ofNat ia)), .val (.int (Int32.ofNat (ia + mm))), .unset, .unset] [])) (st1) ?_
  refine own_via (T1.setTop (mkF m 6 #[.val (.ref t1), .val (.int (Int32.ofNat ia)), .val (.int (Int32.ofNat (ia + mm))), .unset, .unset] [(.int (Int32.ofNat (ia + mm)))])) (fun t k => XS.iloadN X1.here hx rfl (hb hby own_d22_5) rfl k) ?_
  refine own_via (T1.setTop (mkF m 7 #[.val (.ref t1), .val (.int (Int32.ofNat ia)), .val (.int (Int32.ofNat (ia + mm))), .unset, .unset] [(.int (Int32.ofNat ia)), (.int (Int32.ofNat (ia + mm)))])) (fun t k => XS.iloadN X1.here hx rfl (hb hby own_d22_6) rfl k) ?_
  refine own_via (T1.setTop (mkF m 8 #[.val (.ref t1), .val (.int (Int32.ofNat ia)), .val (.int (Int32.ofNat (ia + mm))), .unset, .unset] [(.int ((Int32.ofNat (ia + mm)) - (Int32.ofNat ia)))])) (fun t k => XS.isub X1.here hx rfl (hb hby own_d22_7) rfl k) ?_
  rw [own_osub' ia mm]
  refine own_via (T1.setTop (mkF m 9 #[.val (.ref t1), .val (.int (Int32.ofNat ia)), .val (.int (Int32.ofNat (ia + mm))), .val (.int (Int32.ofNat mm)), .unset] [])) (fun t k => XS.istoreN X1.here hx rfl (hb hby own_d22_8) rfl (l' := #[.val (.ref t1), .val (.int (Int32.ofNat ia)), .val (.int (Int32.ofNat (ia + mm))), .val (.int (Int32.ofNat mm)), .unset]) rfl k) ?_
  refine own_via (T1.setTop (mkF m 10 #[.val (.ref t1), .val (.int (Int32.ofNat ia)), .val (.int (Int32.ofNat (ia + mm))), .val (.int (Int32.ofNat mm)), .unset] [(.int (Int32.ofNat mm))])) (fun t k => XS.iloadN X1.here hx rfl (hb hby own_d22_9) rfl k) ?_
  obtain ⟨T2, h2, k2, X2, e2, E2, A2, st2⟩ := newP X1 hx hZ (hw _ (List.mem_of_getElem? (i := 23) rfl)) e1 (g := (mkF m 10 #[.val (.ref t1), .val (.int (Int32.ofNat ia)), .val (.int (Int32.ofNat (ia + mm))), .val (.int (Int32.ofNat mm)), .unset] [(.int (Int32.ofNat mm))])) rfl (hb hby own_d22_10) rfl (own_nneg (by omega)) (cap := 4) (by rw [own_clamp (by omega)]; omega) (by decide) (by decide) (by decide)
  obtain ⟨o2, g2⟩ : ∃ z, z = h0.size := ⟨_, rfl⟩
  rw [← g2] at A2 st2
  have sz_h2 : h0.size ≤ h2.size := E2.1
  have K_h2 : Keep h0 h2 [] := (Keep.refl h0 []).ext E2
  have V2 : Arv Z h2 o2 k2 .byte (Int32.ofNat mm) [] (.int (0 : Int32)) := Arv.new A2 (own_nneg (by omega))
  have lt_o2 : @LT.lt Nat _ o2 h2.size := V2.lt
  refine own_via (T2.setTop (mkF m 12 #[.val (.ref t1), .val (.int (Int32.ofNat ia)), .val (.int (Int32.ofNat (ia + mm))), .val (.int (Int32.ofNat mm)), .unset] [(.ref o2)])) (st2) ?_
  refine own_via (T2.setTop (mkF m 14 #[.val (.ref t1), .val (.int (Int32.ofNat ia)), .val (.int (Int32.ofNat (ia + mm))), .val (.int (Int32.ofNat mm)), .val (.ref o2)] [])) (fun t k => XS.astore X2.here hx rfl (hb hby own_d22_12) rfl rfl (l' := #[.val (.ref t1), .val (.int (Int32.ofNat ia)), .val (.int (Int32.ofNat (ia + mm))), .val (.int (Int32.ofNat mm)), .val (.ref o2)]) rfl k) ?_
  refine own_via (T2.setTop (mkF m 15 #[.val (.ref t1), .val (.int (Int32.ofNat ia)), .val (.int (Int32.ofNat (ia + mm))), .val (.int (Int32.ofNat mm)), .val (.ref o2)] [(.ref t1)])) (fun t k => XS.aloadN X2.here hx rfl (hb hby own_d22_14) rfl rfl k) ?_
  refine own_via (T2.setTop (mkF m 16 #[.val (.ref t1), .val (.int (Int32.ofNat ia)), .val (.int (Int32.ofNat (ia + mm))), .val (.int (Int32.ofNat mm)), .val (.ref o2)] [(.int (Int32.ofNat ia)), (.ref t1)])) (fun t k => XS.iloadN X2.here hx rfl (hb hby own_d22_15) rfl k) ?_
  refine own_via (T2.setTop (mkF m 18 #[.val (.ref t1), .val (.int (Int32.ofNat ia)), .val (.int (Int32.ofNat (ia + mm))), .val (.int (Int32.ofNat mm)), .val (.ref o2)] [(.ref o2), (.int (Int32.ofNat ia)), (.ref t1)])) (fun t k => XS.aload X2.here hx rfl (hb hby own_d22_16) rfl rfl k) ?_
  refine own_via (T2.setTop (mkF m 19 #[.val (.ref t1), .val (.int (Int32.ofNat ia)), .val (.int (Int32.ofNat (ia + mm))), .val (.int (Int32.ofNat mm)), .val (.ref o2)] [(.int (0 : Int32)), (.ref o2), (.int (Int32.ofNat ia)), (.ref t1)])) (fun t k => XS.iconst X2.here hx rfl (hb hby own_d22_18) k) ?_
  refine own_via (T2.setTop (mkF m 20 #[.val (.ref t1), .val (.int (Int32.ofNat ia)), .val (.int (Int32.ofNat (ia + mm))), .val (.int (Int32.ofNat mm)), .val (.ref o2)] [(.ref t1), (.int (0 : Int32)), (.ref o2), (.int (Int32.ofNat ia)), (.ref t1)])) (fun t k => XS.aloadN X2.here hx rfl (hb hby own_d22_19) rfl rfl k) ?_
  have f3 : Arv Z h2 t1 kb .byte (Int32.ofNat cs.length) (own_BS cs) (.int 0) := (pf0.ext E2)
  obtain ⟨c4, A4, q4, S4, M4, H4, U4⟩ := id f3
  refine own_via (T2.setTop (mkF m 21 #[.val (.ref t1), .val (.int (Int32.ofNat ia)), .val (.int (Int32.ofNat (ia + mm))), .val (.int (Int32.ofNat mm)), .val (.ref o2)] [(.int (Int32.ofNat cs.length)), (.int (0 : Int32)), (.ref o2), (.int (Int32.ofNat ia)), (.ref t1)])) (fun t k => X2.arraylength hx (by rw [e2]; exact A4.1) (State.isArrayOf_alike (hZ).alike A4.2.1) (g := (mkF m 20 #[.val (.ref t1), .val (.int (Int32.ofNat ia)), .val (.int (Int32.ofNat (ia + mm))), .val (.int (Int32.ofNat mm)), .val (.ref o2)] [(.ref t1), (.int (0 : Int32)), (.ref o2), (.int (Int32.ofNat ia)), (.ref t1)])) rfl rfl (hb hby own_d22_20) t (by rw [len_of S4 M4]; exact k)) ?_
  refine own_via (T2.setTop (mkF m 22 #[.val (.ref t1), .val (.int (Int32.ofNat ia)), .val (.int (Int32.ofNat (ia + mm))), .val (.int (Int32.ofNat mm)), .val (.ref o2)] [(.int (Int32.ofNat ia)), (.int (Int32.ofNat cs.length)), (.int (0 : Int32)), (.ref o2), (.int (Int32.ofNat ia)), (.ref t1)])) (fun t k => XS.iloadN X2.here hx rfl (hb hby own_d22_21) rfl k) ?_
  refine own_via (T2.setTop (mkF m 23 #[.val (.ref t1), .val (.int (Int32.ofNat ia)), .val (.int (Int32.ofNat (ia + mm))), .val (.int (Int32.ofNat mm)), .val (.ref o2)] [(.int ((Int32.ofNat cs.length) - (Int32.ofNat ia))), (.int (0 : Int32)), (.ref o2), (.int (Int32.ofNat ia)), (.ref t1)])) (fun t k => XS.isub X2.here hx rfl (hb hby own_d22_22) rfl k) ?_
  refine own_via (T2.setTop (mkF m 24 #[.val (.ref t1), .val (.int (Int32.ofNat ia)), .val (.int (Int32.ofNat (ia + mm))), .val (.int (Int32.ofNat mm)), .val (.ref o2)] [(.int (Int32.ofNat mm)), (.int ((Int32.ofNat cs.length) - (Int32.ofNat ia))), (.int (0 : Int32)), (.ref o2), (.int (Int32.ofNat ia)), (.ref t1)])) (fun t k => XS.iloadN X2.here hx rfl (hb hby own_d22_23) rfl k) ?_
  obtain ⟨v5, T5, h5, L5, X5, e5, q5, st5⟩ := own_cS X2 hx hZ hown (hw _ (List.mem_of_getElem? (i := 105) rfl)) (hw _ (List.mem_of_getElem? (i := 71) rfl)) (hw _ (List.mem_of_getElem? (i := 72) rfl)) (hw _ (List.mem_of_getElem? (i := 73) rfl)) (by decide) (W := 4) (own_bk (rm_min l Z a0 hw ((Int32.ofNat cs.length) - (Int32.ofNat ia)) (Int32.ofNat mm) h2 n0 (by omega)) hZ (hw _ (List.mem_of_getElem? (i := 73) rfl)) (hw _ (List.mem_of_getElem? (i := 72) rfl)) (by decide) (by decide)) e2 (Ls := #[.val (.ref t1), .val (.int (Int32.ofNat ia)), .val (.int (Int32.ofNat (ia + mm))), .val (.int (Int32.ofNat mm)), .val (.ref o2)]) (by rw [hml]; rfl) (argsL := [(.int ((Int32.ofNat cs.length) - (Int32.ofNat ia))), (.int (Int32.ofNat mm))]) (rest := [(.int (0 : Int32)), (.ref o2), (.int (Int32.ofNat ia)), (.ref t1)]) rfl (lenOf own_pd17926884 rfl) rfl (Nat.le_of_eq rfl) (hb hby own_d22_24) (by decide) (by decide)
  obtain ⟨rfl, Nq5, eq5⟩ := q5
  have N5 := Fr.app N1 Nq5
  replace e5 := e5.trans eq5
  refine own_via (T5.setTop (mkF m 27 #[.val (.ref t1), .val (.int (Int32.ofNat ia)), .val (.int (Int32.ofNat (ia + mm))), .val (.int (Int32.ofNat mm)), .val (.ref o2)] [(.int (if (Int32.ofNat mm) < ((Int32.ofNat cs.length) - (Int32.ofNat ia)) then (Int32.ofNat mm) else ((Int32.ofNat cs.length) - (Int32.ofNat ia)))), (.int (0 : Int32)), (.ref o2), (.int (Int32.ofNat ia)), (.ref t1)])) (st5) ?_
  rw [own_minsub hle (by omega)]
  have V7 : Arv Z h2 o2 k2 .byte (Int32.ofNat mm) (List.replicate mm (.int (0 : Int32))) (.int (0 : Int32)) := V2.pad (pad_rep [] _ mm)
  obtain ⟨T6, h6, L6, X6, e6, N6, Kq6, V6, st6⟩ := cpA X5 hx hZ hown (hw _ (List.mem_of_getElem? (i := 106) rfl)) (hw _ (List.mem_of_getElem? (i := 109) rfl)) (hw _ (List.mem_of_getElem? (i := 107) rfl)) (hw _ (List.mem_of_getElem? (i := 108) rfl)) e5 f3 V7 (us := (own_BS ((cs.drop ia).take mm))) (Or.inl ⟨rfl, rfl⟩) (own_nneg (by omega)) (by decide) (own_nneg (by omega)) (by rw [own_clamp (k := ia) (by omega), own_clamp (k := mm) (by omega), own_clamp (k := cs.length) (by omega)]; omega) (by rw [own_clamp (k := mm) (by omega), own_z0]; omega) (by rw [own_clamp (k := mm) (by omega), own_clamp (k := ia) (by omega)]; exact (own_slice cs ia mm (by omega) _).symm) (by rw [own_clamp (k := mm) (by omega), own_z0, List.length_replicate]; omega) N5 (show @LE.le Nat _ _ _ by omega) (g := (mkF m 27 #[.val (.ref t1), .val (.int (Int32.ofNat ia)), .val (.int (Int32.ofNat (ia + mm))), .val (.int (Int32.ofNat mm)), .val (.ref o2)] [(.int (Int32.ofNat mm)), (.int (0 : Int32)), (.ref o2), (.int (Int32.ofNat ia)), (.ref t1)])) rfl (by rw [hml]; rfl) rfl (hb hby own_d22_27) (by decide) (W := 0) (by show 2 * 0 + _ ≤ _; exact Nat.le_of_eq rfl) (by decide)
  have sz_h6 : h2.size ≤ h6.size := Kq6.1
  have K_h6 : Keep h0 h6 [] := K_h2.trans Kq6 (allS (Or.inr (show @LE.le Nat _ _ _ by omega)) all0)
  have f8 : Arv Z h6 o2 k2 .byte (Int32.ofNat mm) (own_BS ((cs.drop ia).take mm)) (.int (0 : Int32)) := by have q := V6; rw [own_cpres (by omega)] at q; exact q
  refine own_via (T6.setTop (mkF m 30 #[.val (.ref t1), .val (.int (Int32.ofNat ia)), .val (.int (Int32.ofNat (ia + mm))), .val (.int (Int32.ofNat mm)), .val (.ref o2)] [])) (st6) ?_
  refine own_via (T6.setTop (mkF m 32 #[.val (.ref t1), .val (.int (Int32.ofNat ia)), .val (.int (Int32.ofNat (ia + mm))), .val (.int (Int32.ofNat mm)), .val (.ref o2)] [(.ref o2)])) (fun t k => XS.aload X6.here hx rfl (hb hby own_d22_30) rfl rfl k) ?_
  have f9 : Arv Z h6 o2 k2 .byte (Int32.ofNat ((cs.drop ia).take mm).length) (own_BS ((cs.drop ia).take mm)) (.int 0) := by rw [own_tlen (by omega)]; exact f8
  exact own_retA X6 hx hlk hret rfl rfl (hb hby own_d22_32) e6 (⟨o2, k2, rfl, N6, K_h6, f9, (show @LE.le Nat _ _ _ by omega)⟩) (by decide) (by decide)
theorem own_pn67661117 : plainFor (⟨"java/util/Arrays", "copyOfRange", "([BII)[B"⟩ : MethodName) = true := by first | exact Jvm.Free.JP.mathPlain rfl (by decide +kernel) | exact plainFor_of_name (by first | (simp [plainName, overriddenIn]; done) | decide +kernel) | decide +kernel
theorem own_d21_0 : decode jdk_65_method_132_code 0 = .ok (.iload_n 1, 1) := by decide +kernel
theorem own_d21_1 : decode jdk_65_method_132_code 1 = .ok (.ifCond .ne 9, 3) := by decide +kernel
theorem own_d21_4 : decode jdk_65_method_132_code 4 = .ok (.iload_n 2, 1) := by decide +kernel
theorem own_d21_5 : decode jdk_65_method_132_code 5 = .ok (.aload_n 0, 1) := by decide +kernel
theorem own_d21_6 : decode jdk_65_method_132_code 6 = .ok (.arraylength, 1) := by decide +kernel
theorem own_d21_7 : decode jdk_65_method_132_code 7 = .ok (.if_icmp .eq 10, 3) := by decide +kernel
theorem own_d21_10 : decode jdk_65_method_132_code 10 = .ok (.aload_n 0, 1) := by decide +kernel
theorem own_d21_11 : decode jdk_65_method_132_code 11 = .ok (.iload_n 1, 1) := by decide +kernel
theorem own_d21_12 : decode jdk_65_method_132_code 12 = .ok (.iload_n 2, 1) := by decide +kernel
theorem own_d21_13 : decode jdk_65_method_132_code 13 = .ok (.invokestatic 339, 3) := by decide +kernel
theorem own_pd10101298 : parseMethodDescriptor "([BII)[B" = some ⟨[(.array .byte), .int, .int], some (.array .byte)⟩ := by decide +kernel
theorem own_d21_16 : decode jdk_65_method_132_code 16 = .ok (.areturn, 1) := by decide +kernel
theorem own_ef_rm_copy (m : MethodId) (x0 : Addr) (x1 : Int32) (x2 : Int32) : entryFrame m #[(.ref x0), (.int x1), (.int x2)] 3 = mkF m 0 #[.val (.ref x0), .val (.int x1), .val (.int x2)] [] := by first | (simp [entryFrame, mkF, argsToLocals, Value.category]; done) | rfl
def Q_rm_copy (Z : State) (t1 : Nat) (kb : ClassId) (cs : List Int32) (b0 : Int32) (b1 : Int32) (ia : Nat) (mm : Nat) (h0 : Heap) (n0 : Nat) (v : Option Value) (h : Heap) (L : List Loc) : Prop := ∃ (b : Nat) (kc : ClassId), v = some (.ref b) ∧ Fr n0 L ∧ Keep h0 h [] ∧ Arv Z h b kc .byte (Int32.ofNat ((cs.drop ia).take mm).length) (own_BS ((cs.drop ia).take mm)) (.int 0) ∧ @LE.le Nat _ h0.size b
set_option maxRecDepth 65536 in
set_option maxHeartbeats 40000000 in
theorem rm_copy (l : Launch) (Z : State) (a0 : Array Value) (hw : ∀ d ∈ tables_1, d.before a0 Z = true) (t1 : Nat) (kb : ClassId) (cs : List Int32) (b0 : Int32) (b1 : Int32) (ia : Nat) (mm : Nat) (h0 : Heap) (n0 : Nat) (Z0 : n0 ≤ h0.size) (pf0 : Arv Z h0 t1 kb .byte (Int32.ofNat cs.length) (own_BS cs) (.int 0)) (hb0 : b0 = Int32.ofNat ia) (hb1 : b1 = Int32.ofNat (ia + mm)) (hle : ia + mm ≤ cs.length) (hl : cs.length ≤ 4) (hnf : ¬ (ia = 0 ∧ mm = cs.length)) :
    own_CT l Z (⟨"java/util/Arrays", "copyOfRange", "([BII)[B"⟩ : MethodName) jdk_65_method_132_code 3 (some (.array .byte)) ({ frames := 2, cells := 1, slots := 4, locals := 56 } : Room) #[(.ref t1), (.int b0), (.int b1)] h0 (Q_rm_copy Z t1 kb cs b0 b1 ia mm h0 n0) := by
  refine own_of own_pn67661117 (Ls := #[.val (.ref t1), .val (.int b0), .val (.int b1)]) (fun m => own_ef_rm_copy m t1 b0 b1) ?_
  intro p e s m below meth c T0 X0 hx hby hml hown hnm hret hZ e0 hlk
  have hown : s.vm.findClass "java/util/Arrays" = some m.cls := hown
  have N0 := Fr.nil n0
  have lt_t1 : @LT.lt Nat _ t1 h0.size := pf0.lt
  subst hb0
  subst hb1
  refine own_via (T0.setTop (mkF m 1 #[.val (.ref t1), .val (.int (Int32.ofNat ia)), .val (.int (Int32.ofNat (ia + mm)))] [(.int (Int32.ofNat ia))])) (fun t k => XS.iloadN X0.here hx rfl (hb hby own_d21_0) rfl k) ?_
  by_cases hz : (Int32.ofNat ia) = 0
  · refine own_via (T0.setTop (mkF m 4 #[.val (.ref t1), .val (.int (Int32.ofNat ia)), .val (.int (Int32.ofNat (ia + mm)))] [])) (fun t k => XS.ifNo X0.here hx rfl (hb hby own_d21_1) rfl (XT.i0_ne_f hz) k) ?_
    refine own_via (T0.setTop (mkF m 5 #[.val (.ref t1), .val (.int (Int32.ofNat ia)), .val (.int (Int32.ofNat (ia + mm)))] [(.int (Int32.ofNat (ia + mm)))])) (fun t k => XS.iloadN X0.here hx rfl (hb hby own_d21_4) rfl k) ?_
    refine own_via (T0.setTop (mkF m 6 #[.val (.ref t1), .val (.int (Int32.ofNat ia)), .val (.int (Int32.ofNat (ia + mm)))] [(.ref t1), (.int (Int32.ofNat (ia + mm)))])) (fun t k => XS.aloadN X0.here hx rfl (hb hby own_d21_5) rfl rfl k) ?_
    obtain ⟨c1, A1, q1, S1, M1, H1, U1⟩ := id pf0
    refine own_via (T0.setTop (mkF m 7 #[.val (.ref t1), .val (.int (Int32.ofNat ia)), .val (.int (Int32.ofNat (ia + mm)))] [(.int (Int32.ofNat cs.length)), (.int (Int32.ofNat (ia + mm)))])) (fun t k => X0.arraylength hx (by rw [e0]; exact A1.1) (State.isArrayOf_alike (hZ).alike A1.2.1) (g := (mkF m 6 #[.val (.ref t1), .val (.int (Int32.ofNat ia)), .val (.int (Int32.ofNat (ia + mm)))] [(.ref t1), (.int (Int32.ofNat (ia + mm)))])) rfl rfl (hb hby own_d21_6) t (by rw [len_of S1 M1]; exact k)) ?_
    refine own_via (T0.setTop (mkF m 10 #[.val (.ref t1), .val (.int (Int32.ofNat ia)), .val (.int (Int32.ofNat (ia + mm)))] [])) (fun t k => XS.icmpNo X0.here hx rfl (hb hby own_d21_7) rfl (XT.ii_eq_f (fun q => hnf (by have q1 := own_oinj (n := 0) (by omega) (by omega) hz; have q2 := own_oinj (by omega) (by omega) q; omega))) k) ?_
    refine own_via (T0.setTop (mkF m 11 #[.val (.ref t1), .val (.int (Int32.ofNat ia)), .val (.int (Int32.ofNat (ia + mm)))] [(.ref t1)])) (fun t k => XS.aloadN X0.here hx rfl (hb hby own_d21_10) rfl rfl k) ?_
    refine own_via (T0.setTop (mkF m 12 #[.val (.ref t1), .val (.int (Int32.ofNat ia)), .val (.int (Int32.ofNat (ia + mm)))] [(.int (Int32.ofNat ia)), (.ref t1)])) (fun t k => XS.iloadN X0.here hx rfl (hb hby own_d21_11) rfl k) ?_
    refine own_via (T0.setTop (mkF m 13 #[.val (.ref t1), .val (.int (Int32.ofNat ia)), .val (.int (Int32.ofNat (ia + mm)))] [(.int (Int32.ofNat (ia + mm))), (.int (Int32.ofNat ia)), (.ref t1)])) (fun t k => XS.iloadN X0.here hx rfl (hb hby own_d21_12) rfl k) ?_
    obtain ⟨v2, T2, h2, L2, X2, e2, q2, st2⟩ := own_cS X0 hx hZ hown (hw _ (List.mem_of_getElem? (i := 99) rfl)) (hw _ (List.mem_of_getElem? (i := 100) rfl)) (hw _ (List.mem_of_getElem? (i := 97) rfl)) (hw _ (List.mem_of_getElem? (i := 101) rfl)) (by decide) (W := 0) (own_bk (rm_copyB l Z a0 hw t1 kb cs (Int32.ofNat ia) (Int32.ofNat (ia + mm)) ia mm h0 n0 (by omega) pf0 rfl rfl hle hl) hZ (hw _ (List.mem_of_getElem? (i := 101) rfl)) (hw _ (List.mem_of_getElem? (i := 97) rfl)) (by decide) (by decide)) e0 (Ls := #[.val (.ref t1), .val (.int (Int32.ofNat ia)), .val (.int (Int32.ofNat (ia + mm)))]) (by rw [hml]; rfl) (argsL := [(.ref t1), (.int (Int32.ofNat ia)), (.int (Int32.ofNat (ia + mm)))]) (rest := []) rfl (lenOf own_pd10101298 rfl) rfl (Nat.le_of_eq rfl) (hb hby own_d21_13) (by decide) (by decide)
    obtain ⟨b_2, kc_2, rfl, Nq2, Kq2, f3, m2_0⟩ := q2
    have N2 := Fr.app N0 Nq2
    have sz_h2 : h0.size ≤ h2.size := Kq2.1
    have K_h2 : Keep h0 h2 [] := (Keep.refl h0 []).trans Kq2 all0
    have lt_b_2 : @LT.lt Nat _ b_2 h2.size := f3.lt
    refine own_via (T2.setTop (mkF m 16 #[.val (.ref t1), .val (.int (Int32.ofNat ia)), .val (.int (Int32.ofNat (ia + mm)))] [(.ref b_2)])) (st2) ?_
    exact own_retA X2 hx hlk hret rfl rfl (hb hby own_d21_16) e2 (⟨b_2, kc_2, rfl, N2, K_h2, f3, (show @LE.le Nat _ _ _ by omega)⟩) (by decide) (by decide)
  · refine own_via (T0.setTop (mkF m 10 #[.val (.ref t1), .val (.int (Int32.ofNat ia)), .val (.int (Int32.ofNat (ia + mm)))] [])) (fun t k => XS.ifYes X0.here hx rfl (pc0 := 1) (pc' := 10) rfl (hb hby own_d21_1) rfl (XT.i0_ne_t hz) (by decide) (by decide) k) ?_
    refine own_via (T0.setTop (mkF m 11 #[.val (.ref t1), .val (.int (Int32.ofNat ia)), .val (.int (Int32.ofNat (ia + mm)))] [(.ref t1)])) (fun t k => XS.aloadN X0.here hx rfl (hb hby own_d21_10) rfl rfl k) ?_
    refine own_via (T0.setTop (mkF m 12 #[.val (.ref t1), .val (.int (Int32.ofNat ia)), .val (.int (Int32.ofNat (ia + mm)))] [(.int (Int32.ofNat ia)), (.ref t1)])) (fun t k => XS.iloadN X0.here hx rfl (hb hby own_d21_11) rfl k) ?_
    refine own_via (T0.setTop (mkF m 13 #[.val (.ref t1), .val (.int (Int32.ofNat ia)), .val (.int (Int32.ofNat (ia + mm)))] [(.int (Int32.ofNat (ia + mm))), (.int (Int32.ofNat ia)), (.ref t1)])) (fun t k => XS.iloadN X0.here hx rfl (hb hby own_d21_12) rfl k) ?_
    obtain ⟨v4, T4, h4, L4, X4, e4, q4, st4⟩ := own_cS X0 hx hZ hown (hw _ (List.mem_of_getElem? (i := 99) rfl)) (hw _ (List.mem_of_getElem? (i := 100) rfl)) (hw _ (List.mem_of_getElem? (i := 97) rfl)) (hw _ (List.mem_of_getElem? (i := 101) rfl)) (by decide) (W := 0) (own_bk (rm_copyB l Z a0 hw t1 kb cs (Int32.ofNat ia) (Int32.ofNat (ia + mm)) ia mm h0 n0 (by omega) pf0 rfl rfl hle hl) hZ (hw _ (List.mem_of_getElem? (i := 101) rfl)) (hw _ (List.mem_of_getElem? (i := 97) rfl)) (by decide) (by decide)) e0 (Ls := #[.val (.ref t1), .val (.int (Int32.ofNat ia)), .val (.int (Int32.ofNat (ia + mm)))]) (by rw [hml]; rfl) (argsL := [(.ref t1), (.int (Int32.ofNat ia)), (.int (Int32.ofNat (ia + mm)))]) (rest := []) rfl (lenOf own_pd10101298 rfl) rfl (Nat.le_of_eq rfl) (hb hby own_d21_13) (by decide) (by decide)
    obtain ⟨b_4, kc_4, rfl, Nq4, Kq4, f5, m4_0⟩ := q4
    have N4 := Fr.app N0 Nq4
    have sz_h4 : h0.size ≤ h4.size := Kq4.1
    have K_h4 : Keep h0 h4 [] := (Keep.refl h0 []).trans Kq4 all0
    have lt_b_4 : @LT.lt Nat _ b_4 h4.size := f5.lt
    refine own_via (T4.setTop (mkF m 16 #[.val (.ref t1), .val (.int (Int32.ofNat ia)), .val (.int (Int32.ofNat (ia + mm)))] [(.ref b_4)])) (st4) ?_
    exact own_retA X4 hx hlk hret rfl rfl (hb hby own_d21_16) e4 (⟨b_4, kc_4, rfl, N4, K_h4, f5, (show @LE.le Nat _ _ _ by omega)⟩) (by decide) (by decide)
theorem own_pn69932744 : plainFor (⟨"java/lang/StringLatin1", "newString", "([BII)Ljava/lang/String;"⟩ : MethodName) = true := by first | exact Jvm.Free.JP.mathPlain rfl (by decide +kernel) | exact plainFor_of_name (by first | (simp [plainName, overriddenIn]; done) | decide +kernel) | decide +kernel
theorem own_d20_0 : decode jdk_43_method_47_code 0 = .ok (.iload_n 2, 1) := by decide +kernel
theorem own_d20_1 : decode jdk_43_method_47_code 1 = .ok (.ifCond .ne 6, 3) := by decide +kernel
theorem own_d20_7 : decode jdk_43_method_47_code 7 = .ok (.new 1, 3) := by decide +kernel
theorem own_d20_10 : decode jdk_43_method_47_code 10 = .ok (.dup, 1) := by decide +kernel
theorem own_d20_11 : decode jdk_43_method_47_code 11 = .ok (.aload_n 0, 1) := by decide +kernel
theorem own_d20_12 : decode jdk_43_method_47_code 12 = .ok (.iload_n 1, 1) := by decide +kernel
theorem own_d20_13 : decode jdk_43_method_47_code 13 = .ok (.iload_n 1, 1) := by decide +kernel
theorem own_d20_14 : decode jdk_43_method_47_code 14 = .ok (.iload_n 2, 1) := by decide +kernel
theorem own_d20_15 : decode jdk_43_method_47_code 15 = .ok (.iadd, 1) := by decide +kernel
theorem own_d20_16 : decode jdk_43_method_47_code 16 = .ok (.invokestatic 232, 3) := by decide +kernel
theorem own_d20_19 : decode jdk_43_method_47_code 19 = .ok (.iconst 0, 1) := by decide +kernel
theorem own_d20_20 : decode jdk_43_method_47_code 20 = .ok (.invokespecial 112, 3) := by decide +kernel
theorem own_pd42435930 : parseMethodDescriptor "([BB)V" = some ⟨[(.array .byte), .byte], none⟩ := by decide +kernel
theorem own_d20_23 : decode jdk_43_method_47_code 23 = .ok (.areturn, 1) := by decide +kernel
theorem own_ef_rm_newStr (m : MethodId) (x0 : Addr) (x1 : Int32) (x2 : Int32) : entryFrame m #[(.ref x0), (.int x1), (.int x2)] 3 = mkF m 0 #[.val (.ref x0), .val (.int x1), .val (.int x2)] [] := by first | (simp [entryFrame, mkF, argsToLocals, Value.category]; done) | rfl
def Q_rm_newStr (Z : State) (t1 : Nat) (kb : ClassId) (cs : List Int32) (b0 : Int32) (b1 : Int32) (ia : Nat) (mm : Nat) (h0 : Heap) (n0 : Nat) (v : Option Value) (h : Heap) (L : List Loc) : Prop := ∃ (b : Nat) (tb : Nat) (kc : ClassId), v = some (.ref b) ∧ Fr n0 L ∧ Keep h0 h [] ∧ Exa Z h b "java/lang/String" ∧ Fld Z h b "java/lang/String" "value" "[B" (.ref tb) ∧ Fld Z h b "java/lang/String" "coder" "B" (.int (0 : Int32)) ∧ Arv Z h tb kc .byte (Int32.ofNat ((cs.drop ia).take mm).length) (own_BS ((cs.drop ia).take mm)) (.int 0) ∧ @LE.le Nat _ h0.size b ∧ @LE.le Nat _ h0.size tb
set_option maxRecDepth 65536 in
set_option maxHeartbeats 40000000 in
theorem rm_newStr (l : Launch) (Z : State) (a0 : Array Value) (hw : ∀ d ∈ tables_1, d.before a0 Z = true) (t1 : Nat) (kb : ClassId) (cs : List Int32) (b0 : Int32) (b1 : Int32) (ia : Nat) (mm : Nat) (h0 : Heap) (n0 : Nat) (Z0 : n0 ≤ h0.size) (pf0 : Arv Z h0 t1 kb .byte (Int32.ofNat cs.length) (own_BS cs) (.int 0)) (hb0 : b0 = Int32.ofNat ia) (hb1 : b1 = Int32.ofNat mm) (hle : ia + mm ≤ cs.length) (hl : cs.length ≤ 4) (hnf : ¬ (ia = 0 ∧ mm = cs.length)) (hm : 0 < mm) :
    own_CT l Z (⟨"java/lang/StringLatin1", "newString", "([BII)Ljava/lang/String;"⟩ : MethodName) jdk_43_method_47_code 3 (some (.object "java/lang/String")) ({ frames := 3, cells := 2, slots := 8, locals := 72 } : Room) #[(.ref t1), (.int b0), (.int b1)] h0 (Q_rm_newStr Z t1 kb cs b0 b1 ia mm h0 n0) := by
  refine own_of own_pn69932744 (Ls := #[.val (.ref t1), .val (.int b0), .val (.int b1)]) (fun m => own_ef_rm_newStr m t1 b0 b1) ?_
  intro p e s m below meth c T0 X0 hx hby hml hown hnm hret hZ e0 hlk
  have hown : s.vm.findClass "java/lang/StringLatin1" = some m.cls := hown
  have N0 := Fr.nil n0
  have lt_t1 : @LT.lt Nat _ t1 h0.size := pf0.lt
  subst hb0
  subst hb1
  refine own_via (T0.setTop (mkF m 1 #[.val (.ref t1), .val (.int (Int32.ofNat ia)), .val (.int (Int32.ofNat mm))] [(.int (Int32.ofNat mm))])) (fun t k => XS.iloadN X0.here hx rfl (hb hby own_d20_0) rfl k) ?_
  refine own_via (T0.setTop (mkF m 7 #[.val (.ref t1), .val (.int (Int32.ofNat ia)), .val (.int (Int32.ofNat mm))] [])) (fun t k => XS.ifYes X0.here hx rfl (pc0 := 1) (pc' := 7) rfl (hb hby own_d20_1) rfl (XT.i0_ne_t (fun q => by have q1 := own_oinj (n := 0) (by omega) (by omega) q; omega)) (by decide) (by decide) k) ?_
  obtain ⟨T1, h1, X1, e1, E1, A1, D1, U1, st1⟩ := newO X0 hx hZ hown (hw _ (List.mem_of_getElem? (i := 94) rfl)) (hw _ (List.mem_of_getElem? (i := 5) rfl)) (hw _ (List.mem_of_getElem? (i := 6) rfl)) e0 (g := (mkF m 7 #[.val (.ref t1), .val (.int (Int32.ofNat ia)), .val (.int (Int32.ofNat mm))] [])) rfl (hb hby own_d20_7) (by decide) (by decide)
  obtain ⟨o1, g1⟩ : ∃ z, z = h0.size := ⟨_, rfl⟩
  rw [← g1] at A1 D1 U1 st1
  have sz_h1 : h0.size ≤ h1.size := E1.1
  have K_h1 : Keep h0 h1 [] := (Keep.refl h0 []).ext E1
  have lt_o1 : @LT.lt Nat _ o1 h1.size := A1.lt
  refine own_via (T1.setTop (mkF m 10 #[.val (.ref t1), .val (.int (Int32.ofNat ia)), .val (.int (Int32.ofNat mm))] [(.ref o1)])) (st1) ?_
  refine own_via (T1.setTop (mkF m 11 #[.val (.ref t1), .val (.int (Int32.ofNat ia)), .val (.int (Int32.ofNat mm))] [(.ref o1), (.ref o1)])) (fun t k => XS.dup X1.here hx rfl (hb hby own_d20_10) rfl rfl k) ?_
  refine own_via (T1.setTop (mkF m 12 #[.val (.ref t1), .val (.int (Int32.ofNat ia)), .val (.int (Int32.ofNat mm))] [(.ref t1), (.ref o1), (.ref o1)])) (fun t k => XS.aloadN X1.here hx rfl (hb hby own_d20_11) rfl rfl k) ?_
  refine own_via (T1.setTop (mkF m 13 #[.val (.ref t1), .val (.int (Int32.ofNat ia)), .val (.int (Int32.ofNat mm))] [(.int (Int32.ofNat ia)), (.ref t1), (.ref o1), (.ref o1)])) (fun t k => XS.iloadN X1.here hx rfl (hb hby own_d20_12) rfl k) ?_
  refine own_via (T1.setTop (mkF m 14 #[.val (.ref t1), .val (.int (Int32.ofNat ia)), .val (.int (Int32.ofNat mm))] [(.int (Int32.ofNat ia)), (.int (Int32.ofNat ia)), (.ref t1), (.ref o1), (.ref o1)])) (fun t k => XS.iloadN X1.here hx rfl (hb hby own_d20_13) rfl k) ?_
  refine own_via (T1.setTop (mkF m 15 #[.val (.ref t1), .val (.int (Int32.ofNat ia)), .val (.int (Int32.ofNat mm))] [(.int (Int32.ofNat mm)), (.int (Int32.ofNat ia)), (.int (Int32.ofNat ia)), (.ref t1), (.ref o1), (.ref o1)])) (fun t k => XS.iloadN X1.here hx rfl (hb hby own_d20_14) rfl k) ?_
  refine own_via (T1.setTop (mkF m 16 #[.val (.ref t1), .val (.int (Int32.ofNat ia)), .val (.int (Int32.ofNat mm))] [(.int ((Int32.ofNat ia) + (Int32.ofNat mm))), (.int (Int32.ofNat ia)), (.ref t1), (.ref o1), (.ref o1)])) (fun t k => XS.iadd X1.here hx rfl (hb hby own_d20_15) rfl k) ?_
  have f2 : Arv Z h1 t1 kb .byte (Int32.ofNat cs.length) (own_BS cs) (.int 0) := (pf0.ext E1)
  obtain ⟨v3, T3, h3, L3, X3, e3, q3, st3⟩ := own_cS X1 hx hZ hown (hw _ (List.mem_of_getElem? (i := 95) rfl)) (hw _ (List.mem_of_getElem? (i := 96) rfl)) (hw _ (List.mem_of_getElem? (i := 97) rfl)) (hw _ (List.mem_of_getElem? (i := 98) rfl)) (by decide) (W := 2) (own_bk (rm_copy l Z a0 hw t1 kb cs (Int32.ofNat ia) ((Int32.ofNat ia) + (Int32.ofNat mm)) ia mm h1 n0 (by omega) f2 rfl (own_oadd _ _) hle hl hnf) hZ (hw _ (List.mem_of_getElem? (i := 98) rfl)) (hw _ (List.mem_of_getElem? (i := 97) rfl)) (by decide) (by decide)) e1 (Ls := #[.val (.ref t1), .val (.int (Int32.ofNat ia)), .val (.int (Int32.ofNat mm))]) (by rw [hml]; rfl) (argsL := [(.ref t1), (.int (Int32.ofNat ia)), (.int ((Int32.ofNat ia) + (Int32.ofNat mm)))]) (rest := [(.ref o1), (.ref o1)]) rfl (lenOf own_pd10101298 rfl) rfl (Nat.le_of_eq rfl) (hb hby own_d20_16) (by decide) (by decide)
  obtain ⟨b_3, kc_3, rfl, Nq3, Kq3, f4, m3_0⟩ := q3
  have N3 := Fr.app N0 Nq3
  have sz_h3 : h1.size ≤ h3.size := Kq3.1
  have K_h3 : Keep h0 h3 [] := K_h1.trans Kq3 all0
  have lt_b_3 : @LT.lt Nat _ b_3 h3.size := f4.lt
  refine own_via (T3.setTop (mkF m 19 #[.val (.ref t1), .val (.int (Int32.ofNat ia)), .val (.int (Int32.ofNat mm))] [(.ref b_3), (.ref o1), (.ref o1)])) (st3) ?_
  refine own_via (T3.setTop (mkF m 20 #[.val (.ref t1), .val (.int (Int32.ofNat ia)), .val (.int (Int32.ofNat mm))] [(.int (0 : Int32)), (.ref b_3), (.ref o1), (.ref o1)])) (fun t k => XS.iconst X3.here hx rfl (hb hby own_d20_19) k) ?_
  have f5 : Exa Z h3 o1 "java/lang/String" := (A1.keep Kq3)
  have f6 : Fld Z h3 o1 "java/lang/String" "value" "[B" .null := ((D1 (Or.inr (hw _ (List.mem_of_getElem? (i := 33) rfl))) (ty := (.array .byte)) (by decide)).keep Kq3 nin0)
  have f7 : Fld Z h3 o1 "java/lang/String" "coder" "B" (.int (0 : Int32)) := ((D1 (Or.inr (hw _ (List.mem_of_getElem? (i := 31) rfl))) (ty := .byte) (by decide)).keep Kq3 nin0)
  obtain ⟨v8, T8, h8, L8, X8, e8, q8, st8⟩ := own_cI X3 hx hZ hown (hw _ (List.mem_of_getElem? (i := 110) rfl)) (hw _ (List.mem_of_getElem? (i := 111) rfl)) (hw _ (List.mem_of_getElem? (i := 112) rfl)) rfl (by decide) (W := 1) (own_bk (rm_initBB l Z a0 hw o1 b_3 .null (.int (0 : Int32)) h3 n0 (by omega) f5 f6 f7 (show @LE.le Nat _ _ _ by omega)) hZ (hw _ (List.mem_of_getElem? (i := 112) rfl)) (hw _ (List.mem_of_getElem? (i := 6) rfl)) (by decide) (by decide)) e3 (a := o1) (Ls := #[.val (.ref t1), .val (.int (Int32.ofNat ia)), .val (.int (Int32.ofNat mm))]) (by rw [hml]; rfl) (argsL := [(.ref b_3), (.int (0 : Int32))]) (rest := [(.ref o1)]) rfl (lenOf own_pd42435930 rfl) rfl (Nat.le_of_eq rfl) (hb hby own_d20_20) (by decide) (by decide)
  obtain ⟨rfl, Nq8, Kq8, f9, f10, f11⟩ := q8
  have N8 := Fr.app N3 Nq8
  have sz_h8 : h3.size ≤ h8.size := Kq8.1
  have K_h8 : Keep h0 h8 [] := K_h3.trans Kq8 (allS (Or.inr (show @LE.le Nat _ _ _ by omega)) all0)
  refine own_via (T8.setTop (mkF m 23 #[.val (.ref t1), .val (.int (Int32.ofNat ia)), .val (.int (Int32.ofNat mm))] [(.ref o1)])) (st8) ?_
  have f12 : Arv Z h8 b_3 kc_3 .byte (Int32.ofNat ((cs.drop ia).take mm).length) (own_BS ((cs.drop ia).take mm)) (.int 0) := (f4.keep Kq8 (ninS (show @Ne Nat _ _ by omega) nin0))
  exact own_retA X8 hx hlk hret rfl rfl (hb hby own_d20_23) e8 (⟨o1, b_3, kc_3, rfl, N8, K_h8, f9, f10, f11, f12, (show @LE.le Nat _ _ _ by omega), (show @LE.le Nat _ _ _ by omega)⟩) (by decide) (by decide)
theorem own_d20_4 : decode jdk_43_method_47_code 4 = .ok (.ldc 151, 2) := by decide +kernel
theorem own_d20_6 : decode jdk_43_method_47_code 6 = .ok (.areturn, 1) := by decide +kernel
theorem own_ef_rm_newStr0 (m : MethodId) (x0 : Addr) (x1 : Int32) : entryFrame m #[(.ref x0), (.int x1), (.int (0 : Int32))] 3 = mkF m 0 #[.val (.ref x0), .val (.int x1), .val (.int (0 : Int32))] [] := by first | (simp [entryFrame, mkF, argsToLocals, Value.category]; done) | rfl
def Q_rm_newStr0 (Z : State) (t1 : Nat) (b0 : Int32) (h0 : Heap) (n0 : Nat) (v : Option Value) (h : Heap) (L : List Loc) : Prop := ∃ (b : Nat) (tb : Nat) (kc : ClassId), v = some (.ref b) ∧ Fr n0 L ∧ Keep h0 h [] ∧ Exa Z h b "java/lang/String" ∧ Fld Z h b "java/lang/String" "value" "[B" (.ref tb) ∧ Fld Z h b "java/lang/String" "coder" "B" (.int (0 : Int32)) ∧ Arv Z h tb kc .byte (Int32.ofNat ([] : List Int32).length) (own_BS ([] : List Int32)) (.int 0)
set_option maxRecDepth 65536 in
set_option maxHeartbeats 40000000 in
theorem rm_newStr0 (l : Launch) (Z : State) (a0 : Array Value) (hw : ∀ d ∈ tables_1, d.before a0 Z = true) (t1 : Nat) (b0 : Int32) (h0 : Heap) (n0 : Nat) (Z0 : n0 ≤ h0.size)  :
    own_CTH l Z own_EL (⟨"java/lang/StringLatin1", "newString", "([BII)Ljava/lang/String;"⟩ : MethodName) jdk_43_method_47_code 3 (some (.object "java/lang/String")) ({ frames := 0, cells := 2, slots := 4, locals := 0 } : Room) #[(.ref t1), (.int b0), (.int (0 : Int32))] h0 (Q_rm_newStr0 Z t1 b0 h0 n0) := by
  refine own_ofH own_pn69932744 (Ls := #[.val (.ref t1), .val (.int b0), .val (.int (0 : Int32))]) (fun m => own_ef_rm_newStr0 m t1 b0) ?_
  intro p e s m below meth c T0 X0 hx hby hml hown hnm hret hZ e0 hh0 hlk hS0 H0
  have C0 : CHr Z own_EL s.vm h0 s.vm h0 := CHr.refl H0
  have hown : s.vm.findClass "java/lang/StringLatin1" = some m.cls := hown
  have N0 := Fr.nil n0
  refine own_via (T0.setTop (mkF m 1 #[.val (.ref t1), .val (.int b0), .val (.int (0 : Int32))] [(.int (0 : Int32))])) (fun t k => XS.iloadN X0.here hx rfl (hb hby own_d20_0) rfl k) ?_
  refine own_via (T0.setTop (mkF m 4 #[.val (.ref t1), .val (.int b0), .val (.int (0 : Int32))] [])) (fun t k => XS.ifNo X0.here hx rfl (hb hby own_d20_1) rfl (by decide) k) ?_
  obtain ⟨o1, T1, h1, k11, ob1, kb1, X1, e1, E1, hS1, hk1, hZ1, hown1, fE1, fC1, fV1, fA1, lta1, ltb1, C1, fL1, hne1, st1⟩ := ldcCH X0 hx hZ hown (hw _ (List.mem_of_getElem? (i := 90) rfl)) (own_SA hw) e0 hS0 (by omega) (own_EW hw) (by decide) C0.1 (vs := (own_BS ([] : List Int32))) (z := (Int32.ofNat ([] : List Int32).length)) ⟨by decide, rfl⟩ (by decide) (by decide) (g := (mkF m 4 #[.val (.ref t1), .val (.int b0), .val (.int (0 : Int32))] [])) rfl (hb hby own_d20_4) (n := 0) (by decide) (by decide) (by decide) (by decide)
  have sz_h1 : h0.size ≤ h1.size := E1.1
  have K_h1 : Keep h0 h1 [] := (Keep.refl h0 []).ext E1
  have C_h1 : CHr Z own_EL s.vm h0 T1.vm h1 := C0.trans C1
  have lt_o1 : @LT.lt Nat _ o1 h1.size := lta1
  have lt_ob1 : @LT.lt Nat _ ob1 h1.size := ltb1
  refine own_via (T1.setTop (mkF m 6 #[.val (.ref t1), .val (.int b0), .val (.int (0 : Int32))] [(.ref o1)])) (st1) ?_
  exact own_leaveH X1 hlk hZ1 (own_EW hw) hS1 (by omega) e1 C_h1 (v := some (.ref o1)) (fun h => by rw [hret] at h; cases h) (⟨o1, ob1, kb1, rfl, N0, K_h1, fE1, fV1, fC1, fA1⟩) (by decide) (by decide) (fun fs hr => own_retAH X1 hx hret rfl rfl (hb hby own_d20_6) hr)
theorem own_pn1261473 : plainFor (⟨"java/lang/String", "substring", "(II)Ljava/lang/String;"⟩ : MethodName) = true := by first | exact Jvm.Free.JP.mathPlain rfl (by decide +kernel) | exact plainFor_of_name (by first | (simp [plainName, overriddenIn]; done) | decide +kernel) | decide +kernel
theorem own_d17_0 : decode jdk_42_method_92_code 0 = .ok (.aload_n 0, 1) := by decide +kernel
theorem own_d17_1 : decode jdk_42_method_92_code 1 = .ok (.invokevirtual 505, 3) := by decide +kernel
theorem own_d17_4 : decode jdk_42_method_92_code 4 = .ok (.istore_n 3, 1) := by decide +kernel
theorem own_d17_5 : decode jdk_42_method_92_code 5 = .ok (.iload_n 1, 1) := by decide +kernel
theorem own_d17_6 : decode jdk_42_method_92_code 6 = .ok (.iload_n 2, 1) := by decide +kernel
theorem own_d17_7 : decode jdk_42_method_92_code 7 = .ok (.iload_n 3, 1) := by decide +kernel
theorem own_d17_8 : decode jdk_42_method_92_code 8 = .ok (.invokestatic 521, 3) := by decide +kernel
theorem own_pd41083283 : parseMethodDescriptor "(III)V" = some ⟨[.int, .int, .int], none⟩ := by decide +kernel
theorem own_d17_11 : decode jdk_42_method_92_code 11 = .ok (.iload_n 1, 1) := by decide +kernel
theorem own_d17_12 : decode jdk_42_method_92_code 12 = .ok (.ifCond .ne 10, 3) := by decide +kernel
theorem own_d17_15 : decode jdk_42_method_92_code 15 = .ok (.iload_n 2, 1) := by decide +kernel
theorem own_d17_16 : decode jdk_42_method_92_code 16 = .ok (.iload_n 3, 1) := by decide +kernel
theorem own_d17_17 : decode jdk_42_method_92_code 17 = .ok (.if_icmp .ne 5, 3) := by decide +kernel
theorem own_d17_22 : decode jdk_42_method_92_code 22 = .ok (.iload_n 2, 1) := by decide +kernel
theorem own_d17_23 : decode jdk_42_method_92_code 23 = .ok (.iload_n 1, 1) := by decide +kernel
theorem own_d17_24 : decode jdk_42_method_92_code 24 = .ok (.isub, 1) := by decide +kernel
theorem own_d17_25 : decode jdk_42_method_92_code 25 = .ok (.istore 4, 2) := by decide +kernel
theorem own_d17_27 : decode jdk_42_method_92_code 27 = .ok (.aload_n 0, 1) := by decide +kernel
theorem own_d17_28 : decode jdk_42_method_92_code 28 = .ok (.invokevirtual 492, 3) := by decide +kernel
theorem own_d17_31 : decode jdk_42_method_92_code 31 = .ok (.ifCond .eq 16, 3) := by decide +kernel
theorem own_d17_34 : decode jdk_42_method_92_code 34 = .ok (.aload_n 0, 1) := by decide +kernel
theorem own_d17_35 : decode jdk_42_method_92_code 35 = .ok (.getfield 9, 3) := by decide +kernel
theorem own_d17_38 : decode jdk_42_method_92_code 38 = .ok (.iload_n 1, 1) := by decide +kernel
theorem own_d17_39 : decode jdk_42_method_92_code 39 = .ok (.iload 4, 2) := by decide +kernel
theorem own_d17_41 : decode jdk_42_method_92_code 41 = .ok (.invokestatic 685, 3) := by decide +kernel
theorem own_pd48841184 : parseMethodDescriptor "([BII)Ljava/lang/String;" = some ⟨[(.array .byte), .int, .int], some (.object "java/lang/String")⟩ := by decide +kernel
theorem own_d17_44 : decode jdk_42_method_92_code 44 = .ok (.goto 13, 3) := by decide +kernel
theorem own_d17_57 : decode jdk_42_method_92_code 57 = .ok (.areturn, 1) := by decide +kernel
theorem own_ef_rm_sub (m : MethodId) (x0 : Addr) (x1 : Int32) (x2 : Int32) : entryFrame m #[(.ref x0), (.int x1), (.int x2)] 5 = mkF m 0 #[.val (.ref x0), .val (.int x1), .val (.int x2), .unset, .unset] [] := by first | (simp [entryFrame, mkF, argsToLocals, Value.category]; done) | rfl
def Q_rm_sub (Z : State) (a1 : Nat) (t1 : Nat) (kb : ClassId) (cs : List Int32) (b0 : Int32) (b1 : Int32) (ia : Nat) (G1 : Int32) (fm : Value) (mm : Nat) (h0 : Heap) (n0 : Nat) (v : Option Value) (h : Heap) (L : List Loc) : Prop := ∃ (b : Nat) (tb : Nat) (kc : ClassId), v = some (.ref b) ∧ Fr n0 L ∧ Keep h0 h [] ∧ Exa Z h b "java/lang/String" ∧ Fld Z h b "java/lang/String" "value" "[B" (.ref tb) ∧ Fld Z h b "java/lang/String" "coder" "B" (.int (0 : Int32)) ∧ Arv Z h tb kc .byte (Int32.ofNat ((cs.drop ia).take mm).length) (own_BS ((cs.drop ia).take mm)) (.int 0) ∧ @LE.le Nat _ h0.size b ∧ @LE.le Nat _ h0.size tb
set_option maxRecDepth 65536 in
set_option maxHeartbeats 40000000 in
theorem rm_sub (l : Launch) (Z : State) (a0 : Array Value) (hw : ∀ d ∈ tables_1, d.before a0 Z = true) (a1 : Nat) (t1 : Nat) (kb : ClassId) (cs : List Int32) (b0 : Int32) (b1 : Int32) (ia : Nat) (G1 : Int32) (fm : Value) (mm : Nat) (h0 : Heap) (n0 : Nat) (Z0 : n0 ≤ h0.size) (pf0 : Exa Z h0 a1 "java/lang/String") (pf1 : Fld Z h0 a1 "java/lang/String" "value" "[B" (.ref t1)) (pf2 : Fld Z h0 a1 "java/lang/String" "coder" "B" (.int (0 : Int32))) (pf3 : Arv Z h0 t1 kb .byte (Int32.ofNat cs.length) (own_BS cs) (.int 0)) (pf4 : Sta Z Z.heap "java/lang/String" "COMPACT_STRINGS" "Z" (.int G1)) (pf5 : Sta Z Z.heap "jdk/internal/util/Preconditions" "SIOOBE_FORMATTER" "Ljava/util/function/BiFunction;" fm) (pf6 : Old Z n0 h0) (hb0 : b0 = Int32.ofNat ia) (hb1 : b1 = Int32.ofNat (ia + mm)) (hle : ia + mm ≤ cs.length) (hl : cs.length ≤ 4) (hnf : ¬ (ia = 0 ∧ mm = cs.length)) (hm : 0 < mm) (hG1 : ¬ G1 = 0) (rfm : fm.isRef = true) (hp : ∀ c ∈ cs, ¬ c < 0 ∧ ¬ (255 : Int32) < c) :
    own_CT l Z (⟨"java/lang/String", "substring", "(II)Ljava/lang/String;"⟩ : MethodName) jdk_42_method_92_code 5 (some (.object "java/lang/String")) ({ frames := 4, cells := 2, slots := 8, locals := 86 } : Room) #[(.ref a1), (.int b0), (.int b1)] h0 (Q_rm_sub Z a1 t1 kb cs b0 b1 ia G1 fm mm h0 n0) := by
  refine own_of own_pn1261473 (Ls := #[.val (.ref a1), .val (.int b0), .val (.int b1), .unset, .unset]) (fun m => own_ef_rm_sub m a1 b0 b1) ?_
  intro p e s m below meth c T0 X0 hx hby hml hown hnm hret hZ e0 hlk
  have hown : s.vm.findClass "java/lang/String" = some m.cls := hown
  have N0 := Fr.nil n0
  have lt_a1 : @LT.lt Nat _ a1 h0.size := pf0.lt
  have lt_t1 : @LT.lt Nat _ t1 h0.size := pf3.lt
  subst hb0
  subst hb1
  refine own_via (T0.setTop (mkF m 1 #[.val (.ref a1), .val (.int (Int32.ofNat ia)), .val (.int (Int32.ofNat (ia + mm))), .unset, .unset] [(.ref a1)])) (fun t k => XS.aloadN X0.here hx rfl (hb hby own_d17_0) rfl rfl k) ?_
  have hcd1 := StrChars.Road.codOf (cs := cs) (n := (cs : List Int32).length) rfl (fun c hc => (hp c hc).2)
  have hbd2 : ∀ c ∈ (cs : List Int32), ¬ c < 0 ∧ ¬ (65535 : Int32) < c := fun c hc => own_up (hp c hc)
  obtain ⟨v3, T3, h3, L3, X3, e3, q3, st3⟩ := own_cV X0 hx hZ (y := (⟨"java/lang/String", "length", "()I"⟩ : MethodName)) (z := (⟨"java/lang/String", "length", "()I"⟩ : MethodName)) hown (hw _ (List.mem_of_getElem? (i := 43) rfl)) (hw _ (List.mem_of_getElem? (i := 44) rfl)) (notFace_of_selects (args := #[]) (mvT hZ (hw _ (List.mem_of_getElem? (i := 46) rfl)))) (hw _ (List.mem_of_getElem? (i := 46) rfl)) (hw _ (List.mem_of_getElem? (i := 45) rfl)) (by decide) (W := 0) (k := 0) (j := 0) (Q := fun v h' L => v = some (.int (Int32.ofNat (cs : List Int32).length)) ∧ L = [] ∧ h' = h0) (StrChars.Road.lenW (cs := cs) hZ (own_hln hw) (kI := 4) (hw _ (List.mem_of_getElem? (i := 5) rfl)) pf0 pf1 pf2 pf3 hcd1 hbd2 (pf4.ext pf6.2) hG1 (by omega) (by decide) (by decide)) e0 pf0 (Ls := #[.val (.ref a1), .val (.int (Int32.ofNat ia)), .val (.int (Int32.ofNat (ia + mm))), .unset, .unset]) (by rw [hml]; rfl) (argsL := []) (rest := []) rfl (lenOf own_pd93735326 rfl) rfl (Nat.le_of_eq rfl) (hb hby own_d17_1) (by decide) (by decide)
  obtain ⟨rfl, rfl, eq3⟩ := q3
  replace e3 := e3.trans eq3
  have N3 := Fr.app N0 (Fr.nil n0)
  refine own_via (T3.setTop (mkF m 4 #[.val (.ref a1), .val (.int (Int32.ofNat ia)), .val (.int (Int32.ofNat (ia + mm))), .unset, .unset] [(.int (Int32.ofNat (cs : List Int32).length))])) (st3) ?_
  refine own_via (T3.setTop (mkF m 5 #[.val (.ref a1), .val (.int (Int32.ofNat ia)), .val (.int (Int32.ofNat (ia + mm))), .val (.int (Int32.ofNat (cs : List Int32).length)), .unset] [])) (fun t k => XS.istoreN X3.here hx rfl (hb hby own_d17_4) rfl (l' := #[.val (.ref a1), .val (.int (Int32.ofNat ia)), .val (.int (Int32.ofNat (ia + mm))), .val (.int (Int32.ofNat (cs : List Int32).length)), .unset]) rfl k) ?_
  refine own_via (T3.setTop (mkF m 6 #[.val (.ref a1), .val (.int (Int32.ofNat ia)), .val (.int (Int32.ofNat (ia + mm))), .val (.int (Int32.ofNat (cs : List Int32).length)), .unset] [(.int (Int32.ofNat ia))])) (fun t k => XS.iloadN X3.here hx rfl (hb hby own_d17_5) rfl k) ?_
  refine own_via (T3.setTop (mkF m 7 #[.val (.ref a1), .val (.int (Int32.ofNat ia)), .val (.int (Int32.ofNat (ia + mm))), .val (.int (Int32.ofNat (cs : List Int32).length)), .unset] [(.int (Int32.ofNat (ia + mm))), (.int (Int32.ofNat ia))])) (fun t k => XS.iloadN X3.here hx rfl (hb hby own_d17_6) rfl k) ?_
  refine own_via (T3.setTop (mkF m 8 #[.val (.ref a1), .val (.int (Int32.ofNat ia)), .val (.int (Int32.ofNat (ia + mm))), .val (.int (Int32.ofNat (cs : List Int32).length)), .unset] [(.int (Int32.ofNat (cs : List Int32).length)), (.int (Int32.ofNat (ia + mm))), (.int (Int32.ofNat ia))])) (fun t k => XS.iloadN X3.here hx rfl (hb hby own_d17_7) rfl k) ?_
  obtain ⟨v4, T4, h4, L4, X4, e4, q4, st4⟩ := own_cS X3 hx hZ hown (hw _ (List.mem_of_getElem? (i := 79) rfl)) (hw _ (List.mem_of_getElem? (i := 80) rfl)) (hw _ (List.mem_of_getElem? (i := 6) rfl)) (hw _ (List.mem_of_getElem? (i := 81) rfl)) (by decide) (W := 0) (own_bk (rm_cBE l Z a0 hw (Int32.ofNat ia) (Int32.ofNat (ia + mm)) (Int32.ofNat (cs : List Int32).length) fm h0 n0 (by omega) pf5 pf6 rfm (own_nneg (by omega)) (own_onlt (by omega) (by omega)) (own_onlt (by omega) (by omega))) hZ (hw _ (List.mem_of_getElem? (i := 81) rfl)) (hw _ (List.mem_of_getElem? (i := 6) rfl)) (by decide) (by decide)) e3 (Ls := #[.val (.ref a1), .val (.int (Int32.ofNat ia)), .val (.int (Int32.ofNat (ia + mm))), .val (.int (Int32.ofNat (cs : List Int32).length)), .unset]) (by rw [hml]; rfl) (argsL := [(.int (Int32.ofNat ia)), (.int (Int32.ofNat (ia + mm))), (.int (Int32.ofNat (cs : List Int32).length))]) (rest := []) rfl (lenOf own_pd41083283 rfl) rfl (Nat.le_of_eq rfl) (hb hby own_d17_8) (by decide) (by decide)
  obtain ⟨rfl, Nq4, eq4⟩ := q4
  have N4 := Fr.app N3 Nq4
  replace e4 := e4.trans eq4
  refine own_via (T4.setTop (mkF m 11 #[.val (.ref a1), .val (.int (Int32.ofNat ia)), .val (.int (Int32.ofNat (ia + mm))), .val (.int (Int32.ofNat (cs : List Int32).length)), .unset] [])) (st4) ?_
  refine own_via (T4.setTop (mkF m 12 #[.val (.ref a1), .val (.int (Int32.ofNat ia)), .val (.int (Int32.ofNat (ia + mm))), .val (.int (Int32.ofNat (cs : List Int32).length)), .unset] [(.int (Int32.ofNat ia))])) (fun t k => XS.iloadN X4.here hx rfl (hb hby own_d17_11) rfl k) ?_
  by_cases hz : (Int32.ofNat ia) = 0
  · refine own_via (T4.setTop (mkF m 15 #[.val (.ref a1), .val (.int (Int32.ofNat ia)), .val (.int (Int32.ofNat (ia + mm))), .val (.int (Int32.ofNat (cs : List Int32).length)), .unset] [])) (fun t k => XS.ifNo X4.here hx rfl (hb hby own_d17_12) rfl (XT.i0_ne_f hz) k) ?_
    refine own_via (T4.setTop (mkF m 16 #[.val (.ref a1), .val (.int (Int32.ofNat ia)), .val (.int (Int32.ofNat (ia + mm))), .val (.int (Int32.ofNat (cs : List Int32).length)), .unset] [(.int (Int32.ofNat (ia + mm)))])) (fun t k => XS.iloadN X4.here hx rfl (hb hby own_d17_15) rfl k) ?_
    refine own_via (T4.setTop (mkF m 17 #[.val (.ref a1), .val (.int (Int32.ofNat ia)), .val (.int (Int32.ofNat (ia + mm))), .val (.int (Int32.ofNat (cs : List Int32).length)), .unset] [(.int (Int32.ofNat (cs : List Int32).length)), (.int (Int32.ofNat (ia + mm)))])) (fun t k => XS.iloadN X4.here hx rfl (hb hby own_d17_16) rfl k) ?_
    refine own_via (T4.setTop (mkF m 22 #[.val (.ref a1), .val (.int (Int32.ofNat ia)), .val (.int (Int32.ofNat (ia + mm))), .val (.int (Int32.ofNat (cs : List Int32).length)), .unset] [])) (fun t k => XS.icmpYes X4.here hx rfl (pc0 := 17) (pc' := 22) rfl (hb hby own_d17_17) rfl (XT.ii_ne_t (fun q => hnf (by have q1 := own_oinj (n := 0) (by omega) (by omega) hz; have q2 := own_oinj (by omega) (by omega) q; omega))) (by decide) (by decide) k) ?_
    refine own_via (T4.setTop (mkF m 23 #[.val (.ref a1), .val (.int (Int32.ofNat ia)), .val (.int (Int32.ofNat (ia + mm))), .val (.int (Int32.ofNat (cs : List Int32).length)), .unset] [(.int (Int32.ofNat (ia + mm)))])) (fun t k => XS.iloadN X4.here hx rfl (hb hby own_d17_22) rfl k) ?_
    refine own_via (T4.setTop (mkF m 24 #[.val (.ref a1), .val (.int (Int32.ofNat ia)), .val (.int (Int32.ofNat (ia + mm))), .val (.int (Int32.ofNat (cs : List Int32).length)), .unset] [(.int (Int32.ofNat ia)), (.int (Int32.ofNat (ia + mm)))])) (fun t k => XS.iloadN X4.here hx rfl (hb hby own_d17_23) rfl k) ?_
    refine own_via (T4.setTop (mkF m 25 #[.val (.ref a1), .val (.int (Int32.ofNat ia)), .val (.int (Int32.ofNat (ia + mm))), .val (.int (Int32.ofNat (cs : List Int32).length)), .unset] [(.int ((Int32.ofNat (ia + mm)) - (Int32.ofNat ia)))])) (fun t k => XS.isub X4.here hx rfl (hb hby own_d17_24) rfl k) ?_
    rw [own_osub' ia mm]
    refine own_via (T4.setTop (mkF m 27 #[.val (.ref a1), .val (.int (Int32.ofNat ia)), .val (.int (Int32.ofNat (ia + mm))), .val (.int (Int32.ofNat (cs : List Int32).length)), .val (.int (Int32.ofNat mm))] [])) (fun t k => XS.istore X4.here hx rfl (hb hby own_d17_25) rfl (l' := #[.val (.ref a1), .val (.int (Int32.ofNat ia)), .val (.int (Int32.ofNat (ia + mm))), .val (.int (Int32.ofNat (cs : List Int32).length)), .val (.int (Int32.ofNat mm))]) rfl k) ?_
    refine own_via (T4.setTop (mkF m 28 #[.val (.ref a1), .val (.int (Int32.ofNat ia)), .val (.int (Int32.ofNat (ia + mm))), .val (.int (Int32.ofNat (cs : List Int32).length)), .val (.int (Int32.ofNat mm))] [(.ref a1)])) (fun t k => XS.aloadN X4.here hx rfl (hb hby own_d17_27) rfl rfl k) ?_
    obtain ⟨v5, T5, h5, L5, X5, e5, q5, st5⟩ := own_cV X4 hx hZ (y := (⟨"java/lang/String", "isLatin1", "()Z"⟩ : MethodName)) (z := (⟨"java/lang/String", "isLatin1", "()Z"⟩ : MethodName)) hown (hw _ (List.mem_of_getElem? (i := 58) rfl)) (hw _ (List.mem_of_getElem? (i := 59) rfl)) (notFace_of_selects (args := #[]) (mvT hZ (hw _ (List.mem_of_getElem? (i := 61) rfl)))) (hw _ (List.mem_of_getElem? (i := 61) rfl)) (hw _ (List.mem_of_getElem? (i := 60) rfl)) (by decide) (W := 0) (own_bk (rm_isLatin1 l Z a0 hw a1 G1 h0 n0 (by omega) pf2 pf4 pf6 hG1) hZ (hw _ (List.mem_of_getElem? (i := 62) rfl)) (hw _ (List.mem_of_getElem? (i := 6) rfl)) (by decide) (by decide)) e4 pf0 (Ls := #[.val (.ref a1), .val (.int (Int32.ofNat ia)), .val (.int (Int32.ofNat (ia + mm))), .val (.int (Int32.ofNat (cs : List Int32).length)), .val (.int (Int32.ofNat mm))]) (by rw [hml]; rfl) (argsL := []) (rest := []) rfl (lenOf own_pd48405890 rfl) rfl (Nat.le_of_eq rfl) (hb hby own_d17_28) (by decide) (by decide)
    obtain ⟨rfl, Nq5, eq5⟩ := q5
    have N5 := Fr.app N4 Nq5
    replace e5 := e5.trans eq5
    refine own_via (T5.setTop (mkF m 31 #[.val (.ref a1), .val (.int (Int32.ofNat ia)), .val (.int (Int32.ofNat (ia + mm))), .val (.int (Int32.ofNat (cs : List Int32).length)), .val (.int (Int32.ofNat mm))] [(.int (1 : Int32))])) (st5) ?_
    refine own_via (T5.setTop (mkF m 34 #[.val (.ref a1), .val (.int (Int32.ofNat ia)), .val (.int (Int32.ofNat (ia + mm))), .val (.int (Int32.ofNat (cs : List Int32).length)), .val (.int (Int32.ofNat mm))] [])) (fun t k => XS.ifNo X5.here hx rfl (hb hby own_d17_31) rfl (by decide) k) ?_
    refine own_via (T5.setTop (mkF m 35 #[.val (.ref a1), .val (.int (Int32.ofNat ia)), .val (.int (Int32.ofNat (ia + mm))), .val (.int (Int32.ofNat (cs : List Int32).length)), .val (.int (Int32.ofNat mm))] [(.ref a1)])) (fun t k => XS.aloadN X5.here hx rfl (hb hby own_d17_34) rfl rfl k) ?_
    obtain ⟨T6, X6, e6, st6⟩ := getF X5 hx hZ hown (host := "") (Or.inl (hw _ (List.mem_of_getElem? (i := 32) rfl))) Via.refl e5 pf1 (g := (mkF m 35 #[.val (.ref a1), .val (.int (Int32.ofNat ia)), .val (.int (Int32.ofNat (ia + mm))), .val (.int (Int32.ofNat (cs : List Int32).length)), .val (.int (Int32.ofNat mm))] [(.ref a1)])) rfl rfl (hb hby own_d17_35)
    refine own_via (T6.setTop (mkF m 38 #[.val (.ref a1), .val (.int (Int32.ofNat ia)), .val (.int (Int32.ofNat (ia + mm))), .val (.int (Int32.ofNat (cs : List Int32).length)), .val (.int (Int32.ofNat mm))] [(.ref t1)])) (st6) ?_
    refine own_via (T6.setTop (mkF m 39 #[.val (.ref a1), .val (.int (Int32.ofNat ia)), .val (.int (Int32.ofNat (ia + mm))), .val (.int (Int32.ofNat (cs : List Int32).length)), .val (.int (Int32.ofNat mm))] [(.int (Int32.ofNat ia)), (.ref t1)])) (fun t k => XS.iloadN X6.here hx rfl (hb hby own_d17_38) rfl k) ?_
    refine own_via (T6.setTop (mkF m 41 #[.val (.ref a1), .val (.int (Int32.ofNat ia)), .val (.int (Int32.ofNat (ia + mm))), .val (.int (Int32.ofNat (cs : List Int32).length)), .val (.int (Int32.ofNat mm))] [(.int (Int32.ofNat mm)), (.int (Int32.ofNat ia)), (.ref t1)])) (fun t k => XS.iload X6.here hx rfl (hb hby own_d17_39) rfl k) ?_
    obtain ⟨v7, T7, h7, L7, X7, e7, q7, st7⟩ := own_cS X6 hx hZ hown (hw _ (List.mem_of_getElem? (i := 87) rfl)) (hw _ (List.mem_of_getElem? (i := 88) rfl)) (hw _ (List.mem_of_getElem? (i := 65) rfl)) (hw _ (List.mem_of_getElem? (i := 89) rfl)) (by decide) (W := 0) (own_bk (rm_newStr l Z a0 hw t1 kb cs (Int32.ofNat ia) (Int32.ofNat mm) ia mm h0 n0 (by omega) pf3 rfl rfl hle hl hnf hm) hZ (hw _ (List.mem_of_getElem? (i := 89) rfl)) (hw _ (List.mem_of_getElem? (i := 65) rfl)) (by decide) (by decide)) e6 (Ls := #[.val (.ref a1), .val (.int (Int32.ofNat ia)), .val (.int (Int32.ofNat (ia + mm))), .val (.int (Int32.ofNat (cs : List Int32).length)), .val (.int (Int32.ofNat mm))]) (by rw [hml]; rfl) (argsL := [(.ref t1), (.int (Int32.ofNat ia)), (.int (Int32.ofNat mm))]) (rest := []) rfl (lenOf own_pd48841184 rfl) rfl (Nat.le_of_eq rfl) (hb hby own_d17_41) (by decide) (by decide)
    obtain ⟨b_7, tb_7, kc_7, rfl, Nq7, Kq7, f8, f9, f10, f11, m7_0, m7_1⟩ := q7
    have N7 := Fr.app N5 Nq7
    have sz_h7 : h0.size ≤ h7.size := Kq7.1
    have K_h7 : Keep h0 h7 [] := (Keep.refl h0 []).trans Kq7 all0
    have lt_b_7 : @LT.lt Nat _ b_7 h7.size := f8.lt
    have lt_tb_7 : @LT.lt Nat _ tb_7 h7.size := f11.lt
    refine own_via (T7.setTop (mkF m 44 #[.val (.ref a1), .val (.int (Int32.ofNat ia)), .val (.int (Int32.ofNat (ia + mm))), .val (.int (Int32.ofNat (cs : List Int32).length)), .val (.int (Int32.ofNat mm))] [(.ref b_7)])) (st7) ?_
    refine own_via (T7.setTop (mkF m 57 #[.val (.ref a1), .val (.int (Int32.ofNat ia)), .val (.int (Int32.ofNat (ia + mm))), .val (.int (Int32.ofNat (cs : List Int32).length)), .val (.int (Int32.ofNat mm))] [(.ref b_7)])) (fun t k => XS.goto X7.here hx rfl (pc0 := 44) (pc' := 57) rfl (hb hby own_d17_44) (by decide) (by decide) k) ?_
    exact own_retA X7 hx hlk hret rfl rfl (hb hby own_d17_57) e7 (⟨b_7, tb_7, kc_7, rfl, N7, K_h7, f8, f9, f10, f11, (show @LE.le Nat _ _ _ by omega), (show @LE.le Nat _ _ _ by omega)⟩) (by decide) (by decide)
  · refine own_via (T4.setTop (mkF m 22 #[.val (.ref a1), .val (.int (Int32.ofNat ia)), .val (.int (Int32.ofNat (ia + mm))), .val (.int (Int32.ofNat (cs : List Int32).length)), .unset] [])) (fun t k => XS.ifYes X4.here hx rfl (pc0 := 12) (pc' := 22) rfl (hb hby own_d17_12) rfl (XT.i0_ne_t hz) (by decide) (by decide) k) ?_
    refine own_via (T4.setTop (mkF m 23 #[.val (.ref a1), .val (.int (Int32.ofNat ia)), .val (.int (Int32.ofNat (ia + mm))), .val (.int (Int32.ofNat (cs : List Int32).length)), .unset] [(.int (Int32.ofNat (ia + mm)))])) (fun t k => XS.iloadN X4.here hx rfl (hb hby own_d17_22) rfl k) ?_
    refine own_via (T4.setTop (mkF m 24 #[.val (.ref a1), .val (.int (Int32.ofNat ia)), .val (.int (Int32.ofNat (ia + mm))), .val (.int (Int32.ofNat (cs : List Int32).length)), .unset] [(.int (Int32.ofNat ia)), (.int (Int32.ofNat (ia + mm)))])) (fun t k => XS.iloadN X4.here hx rfl (hb hby own_d17_23) rfl k) ?_
    refine own_via (T4.setTop (mkF m 25 #[.val (.ref a1), .val (.int (Int32.ofNat ia)), .val (.int (Int32.ofNat (ia + mm))), .val (.int (Int32.ofNat (cs : List Int32).length)), .unset] [(.int ((Int32.ofNat (ia + mm)) - (Int32.ofNat ia)))])) (fun t k => XS.isub X4.here hx rfl (hb hby own_d17_24) rfl k) ?_
    rw [own_osub' ia mm]
    refine own_via (T4.setTop (mkF m 27 #[.val (.ref a1), .val (.int (Int32.ofNat ia)), .val (.int (Int32.ofNat (ia + mm))), .val (.int (Int32.ofNat (cs : List Int32).length)), .val (.int (Int32.ofNat mm))] [])) (fun t k => XS.istore X4.here hx rfl (hb hby own_d17_25) rfl (l' := #[.val (.ref a1), .val (.int (Int32.ofNat ia)), .val (.int (Int32.ofNat (ia + mm))), .val (.int (Int32.ofNat (cs : List Int32).length)), .val (.int (Int32.ofNat mm))]) rfl k) ?_
    refine own_via (T4.setTop (mkF m 28 #[.val (.ref a1), .val (.int (Int32.ofNat ia)), .val (.int (Int32.ofNat (ia + mm))), .val (.int (Int32.ofNat (cs : List Int32).length)), .val (.int (Int32.ofNat mm))] [(.ref a1)])) (fun t k => XS.aloadN X4.here hx rfl (hb hby own_d17_27) rfl rfl k) ?_
    obtain ⟨v12, T12, h12, L12, X12, e12, q12, st12⟩ := own_cV X4 hx hZ (y := (⟨"java/lang/String", "isLatin1", "()Z"⟩ : MethodName)) (z := (⟨"java/lang/String", "isLatin1", "()Z"⟩ : MethodName)) hown (hw _ (List.mem_of_getElem? (i := 58) rfl)) (hw _ (List.mem_of_getElem? (i := 59) rfl)) (notFace_of_selects (args := #[]) (mvT hZ (hw _ (List.mem_of_getElem? (i := 61) rfl)))) (hw _ (List.mem_of_getElem? (i := 61) rfl)) (hw _ (List.mem_of_getElem? (i := 60) rfl)) (by decide) (W := 0) (own_bk (rm_isLatin1 l Z a0 hw a1 G1 h0 n0 (by omega) pf2 pf4 pf6 hG1) hZ (hw _ (List.mem_of_getElem? (i := 62) rfl)) (hw _ (List.mem_of_getElem? (i := 6) rfl)) (by decide) (by decide)) e4 pf0 (Ls := #[.val (.ref a1), .val (.int (Int32.ofNat ia)), .val (.int (Int32.ofNat (ia + mm))), .val (.int (Int32.ofNat (cs : List Int32).length)), .val (.int (Int32.ofNat mm))]) (by rw [hml]; rfl) (argsL := []) (rest := []) rfl (lenOf own_pd48405890 rfl) rfl (Nat.le_of_eq rfl) (hb hby own_d17_28) (by decide) (by decide)
    obtain ⟨rfl, Nq12, eq12⟩ := q12
    have N12 := Fr.app N4 Nq12
    replace e12 := e12.trans eq12
    refine own_via (T12.setTop (mkF m 31 #[.val (.ref a1), .val (.int (Int32.ofNat ia)), .val (.int (Int32.ofNat (ia + mm))), .val (.int (Int32.ofNat (cs : List Int32).length)), .val (.int (Int32.ofNat mm))] [(.int (1 : Int32))])) (st12) ?_
    refine own_via (T12.setTop (mkF m 34 #[.val (.ref a1), .val (.int (Int32.ofNat ia)), .val (.int (Int32.ofNat (ia + mm))), .val (.int (Int32.ofNat (cs : List Int32).length)), .val (.int (Int32.ofNat mm))] [])) (fun t k => XS.ifNo X12.here hx rfl (hb hby own_d17_31) rfl (by decide) k) ?_
    refine own_via (T12.setTop (mkF m 35 #[.val (.ref a1), .val (.int (Int32.ofNat ia)), .val (.int (Int32.ofNat (ia + mm))), .val (.int (Int32.ofNat (cs : List Int32).length)), .val (.int (Int32.ofNat mm))] [(.ref a1)])) (fun t k => XS.aloadN X12.here hx rfl (hb hby own_d17_34) rfl rfl k) ?_
    obtain ⟨T13, X13, e13, st13⟩ := getF X12 hx hZ hown (host := "") (Or.inl (hw _ (List.mem_of_getElem? (i := 32) rfl))) Via.refl e12 pf1 (g := (mkF m 35 #[.val (.ref a1), .val (.int (Int32.ofNat ia)), .val (.int (Int32.ofNat (ia + mm))), .val (.int (Int32.ofNat (cs : List Int32).length)), .val (.int (Int32.ofNat mm))] [(.ref a1)])) rfl rfl (hb hby own_d17_35)
    refine own_via (T13.setTop (mkF m 38 #[.val (.ref a1), .val (.int (Int32.ofNat ia)), .val (.int (Int32.ofNat (ia + mm))), .val (.int (Int32.ofNat (cs : List Int32).length)), .val (.int (Int32.ofNat mm))] [(.ref t1)])) (st13) ?_
    refine own_via (T13.setTop (mkF m 39 #[.val (.ref a1), .val (.int (Int32.ofNat ia)), .val (.int (Int32.ofNat (ia + mm))), .val (.int (Int32.ofNat (cs : List Int32).length)), .val (.int (Int32.ofNat mm))] [(.int (Int32.ofNat ia)), (.ref t1)])) (fun t k => XS.iloadN X13.here hx rfl (hb hby own_d17_38) rfl k) ?_
    refine own_via (T13.setTop (mkF m 41 #[.val (.ref a1), .val (.int (Int32.ofNat ia)), .val (.int (Int32.ofNat (ia + mm))), .val (.int (Int32.ofNat (cs : List Int32).length)), .val (.int (Int32.ofNat mm))] [(.int (Int32.ofNat mm)), (.int (Int32.ofNat ia)), (.ref t1)])) (fun t k => XS.iload X13.here hx rfl (hb hby own_d17_39) rfl k) ?_
    obtain ⟨v14, T14, h14, L14, X14, e14, q14, st14⟩ := own_cS X13 hx hZ hown (hw _ (List.mem_of_getElem? (i := 87) rfl)) (hw _ (List.mem_of_getElem? (i := 88) rfl)) (hw _ (List.mem_of_getElem? (i := 65) rfl)) (hw _ (List.mem_of_getElem? (i := 89) rfl)) (by decide) (W := 0) (own_bk (rm_newStr l Z a0 hw t1 kb cs (Int32.ofNat ia) (Int32.ofNat mm) ia mm h0 n0 (by omega) pf3 rfl rfl hle hl hnf hm) hZ (hw _ (List.mem_of_getElem? (i := 89) rfl)) (hw _ (List.mem_of_getElem? (i := 65) rfl)) (by decide) (by decide)) e13 (Ls := #[.val (.ref a1), .val (.int (Int32.ofNat ia)), .val (.int (Int32.ofNat (ia + mm))), .val (.int (Int32.ofNat (cs : List Int32).length)), .val (.int (Int32.ofNat mm))]) (by rw [hml]; rfl) (argsL := [(.ref t1), (.int (Int32.ofNat ia)), (.int (Int32.ofNat mm))]) (rest := []) rfl (lenOf own_pd48841184 rfl) rfl (Nat.le_of_eq rfl) (hb hby own_d17_41) (by decide) (by decide)
    obtain ⟨b_14, tb_14, kc_14, rfl, Nq14, Kq14, f15, f16, f17, f18, m14_0, m14_1⟩ := q14
    have N14 := Fr.app N12 Nq14
    have sz_h14 : h0.size ≤ h14.size := Kq14.1
    have K_h14 : Keep h0 h14 [] := (Keep.refl h0 []).trans Kq14 all0
    have lt_b_14 : @LT.lt Nat _ b_14 h14.size := f15.lt
    have lt_tb_14 : @LT.lt Nat _ tb_14 h14.size := f18.lt
    refine own_via (T14.setTop (mkF m 44 #[.val (.ref a1), .val (.int (Int32.ofNat ia)), .val (.int (Int32.ofNat (ia + mm))), .val (.int (Int32.ofNat (cs : List Int32).length)), .val (.int (Int32.ofNat mm))] [(.ref b_14)])) (st14) ?_
    refine own_via (T14.setTop (mkF m 57 #[.val (.ref a1), .val (.int (Int32.ofNat ia)), .val (.int (Int32.ofNat (ia + mm))), .val (.int (Int32.ofNat (cs : List Int32).length)), .val (.int (Int32.ofNat mm))] [(.ref b_14)])) (fun t k => XS.goto X14.here hx rfl (pc0 := 44) (pc' := 57) rfl (hb hby own_d17_44) (by decide) (by decide) k) ?_
    exact own_retA X14 hx hlk hret rfl rfl (hb hby own_d17_57) e14 (⟨b_14, tb_14, kc_14, rfl, N14, K_h14, f15, f16, f17, f18, (show @LE.le Nat _ _ _ by omega), (show @LE.le Nat _ _ _ by omega)⟩) (by decide) (by decide)
theorem own_ef_rm_sub0 (m : MethodId) (x0 : Addr) (x1 : Int32) (x2 : Int32) : entryFrame m #[(.ref x0), (.int x1), (.int x2)] 5 = mkF m 0 #[.val (.ref x0), .val (.int x1), .val (.int x2), .unset, .unset] [] := by first | (simp [entryFrame, mkF, argsToLocals, Value.category]; done) | rfl
def Q_rm_sub0 (Z : State) (a1 : Nat) (t1 : Nat) (kb : ClassId) (cs : List Int32) (b0 : Int32) (b1 : Int32) (ia : Nat) (G1 : Int32) (fm : Value) (h0 : Heap) (n0 : Nat) (v : Option Value) (h : Heap) (L : List Loc) : Prop := ∃ (b : Nat) (tb : Nat) (kc : ClassId), v = some (.ref b) ∧ Fr n0 L ∧ Keep h0 h [] ∧ Exa Z h b "java/lang/String" ∧ Fld Z h b "java/lang/String" "value" "[B" (.ref tb) ∧ Fld Z h b "java/lang/String" "coder" "B" (.int (0 : Int32)) ∧ Arv Z h tb kc .byte (Int32.ofNat ([] : List Int32).length) (own_BS ([] : List Int32)) (.int 0)
set_option maxRecDepth 65536 in
set_option maxHeartbeats 40000000 in
theorem rm_sub0 (l : Launch) (Z : State) (a0 : Array Value) (hw : ∀ d ∈ tables_1, d.before a0 Z = true) (a1 : Nat) (t1 : Nat) (kb : ClassId) (cs : List Int32) (b0 : Int32) (b1 : Int32) (ia : Nat) (G1 : Int32) (fm : Value) (h0 : Heap) (n0 : Nat) (Z0 : n0 ≤ h0.size) (pf0 : Exa Z h0 a1 "java/lang/String") (pf1 : Fld Z h0 a1 "java/lang/String" "value" "[B" (.ref t1)) (pf2 : Fld Z h0 a1 "java/lang/String" "coder" "B" (.int (0 : Int32))) (pf3 : Arv Z h0 t1 kb .byte (Int32.ofNat cs.length) (own_BS cs) (.int 0)) (pf4 : Sta Z Z.heap "java/lang/String" "COMPACT_STRINGS" "Z" (.int G1)) (pf5 : Sta Z Z.heap "jdk/internal/util/Preconditions" "SIOOBE_FORMATTER" "Ljava/util/function/BiFunction;" fm) (pf6 : Old Z n0 h0) (hb0 : b0 = Int32.ofNat ia) (hb1 : b1 = Int32.ofNat ia) (hle : ia ≤ cs.length) (hl : cs.length ≤ 4) (hnf : ¬ (ia = 0 ∧ 0 = cs.length)) (hG1 : ¬ G1 = 0) (rfm : fm.isRef = true) (hp : ∀ c ∈ cs, ¬ c < 0 ∧ ¬ (255 : Int32) < c) :
    own_CTH l Z own_EL (⟨"java/lang/String", "substring", "(II)Ljava/lang/String;"⟩ : MethodName) jdk_42_method_92_code 5 (some (.object "java/lang/String")) ({ frames := 2, cells := 2, slots := 4, locals := 29 } : Room) #[(.ref a1), (.int b0), (.int b1)] h0 (Q_rm_sub0 Z a1 t1 kb cs b0 b1 ia G1 fm h0 n0) := by
  refine own_ofH own_pn1261473 (Ls := #[.val (.ref a1), .val (.int b0), .val (.int b1), .unset, .unset]) (fun m => own_ef_rm_sub0 m a1 b0 b1) ?_
  intro p e s m below meth c T0 X0 hx hby hml hown hnm hret hZ e0 hh0 hlk hS0 H0
  have C0 : CHr Z own_EL s.vm h0 s.vm h0 := CHr.refl H0
  have hown : s.vm.findClass "java/lang/String" = some m.cls := hown
  have N0 := Fr.nil n0
  have lt_a1 : @LT.lt Nat _ a1 h0.size := pf0.lt
  have lt_t1 : @LT.lt Nat _ t1 h0.size := pf3.lt
  subst hb0
  subst hb1
  refine own_via (T0.setTop (mkF m 1 #[.val (.ref a1), .val (.int (Int32.ofNat ia)), .val (.int (Int32.ofNat ia)), .unset, .unset] [(.ref a1)])) (fun t k => XS.aloadN X0.here hx rfl (hb hby own_d17_0) rfl rfl k) ?_
  have hcd1 := StrChars.Road.codOf (cs := cs) (n := (cs : List Int32).length) rfl (fun c hc => (hp c hc).2)
  have hbd2 : ∀ c ∈ (cs : List Int32), ¬ c < 0 ∧ ¬ (65535 : Int32) < c := fun c hc => own_up (hp c hc)
  obtain ⟨v3, T3, h3, L3, X3, e3, q3, st3⟩ := own_cV X0 hx hZ (y := (⟨"java/lang/String", "length", "()I"⟩ : MethodName)) (z := (⟨"java/lang/String", "length", "()I"⟩ : MethodName)) hown (hw _ (List.mem_of_getElem? (i := 43) rfl)) (hw _ (List.mem_of_getElem? (i := 44) rfl)) (notFace_of_selects (args := #[]) (mvT hZ (hw _ (List.mem_of_getElem? (i := 46) rfl)))) (hw _ (List.mem_of_getElem? (i := 46) rfl)) (hw _ (List.mem_of_getElem? (i := 45) rfl)) (by decide) (W := 0) (k := 0) (j := 0) (Q := fun v h' L => v = some (.int (Int32.ofNat (cs : List Int32).length)) ∧ L = [] ∧ h' = h0) (StrChars.Road.lenW (cs := cs) hZ (own_hln hw) (kI := 4) (hw _ (List.mem_of_getElem? (i := 5) rfl)) pf0 pf1 pf2 pf3 hcd1 hbd2 (pf4.ext pf6.2) hG1 (by omega) (by decide) (by decide)) e0 pf0 (Ls := #[.val (.ref a1), .val (.int (Int32.ofNat ia)), .val (.int (Int32.ofNat ia)), .unset, .unset]) (by rw [hml]; rfl) (argsL := []) (rest := []) rfl (lenOf own_pd93735326 rfl) rfl (Nat.le_of_eq rfl) (hb hby own_d17_1) (by decide) (by decide)
  obtain ⟨rfl, rfl, eq3⟩ := q3
  replace e3 := e3.trans eq3
  have N3 := Fr.app N0 (Fr.nil n0)
  refine own_via (T3.setTop (mkF m 4 #[.val (.ref a1), .val (.int (Int32.ofNat ia)), .val (.int (Int32.ofNat ia)), .unset, .unset] [(.int (Int32.ofNat (cs : List Int32).length))])) (st3) ?_
  refine own_via (T3.setTop (mkF m 5 #[.val (.ref a1), .val (.int (Int32.ofNat ia)), .val (.int (Int32.ofNat ia)), .val (.int (Int32.ofNat (cs : List Int32).length)), .unset] [])) (fun t k => XS.istoreN X3.here hx rfl (hb hby own_d17_4) rfl (l' := #[.val (.ref a1), .val (.int (Int32.ofNat ia)), .val (.int (Int32.ofNat ia)), .val (.int (Int32.ofNat (cs : List Int32).length)), .unset]) rfl k) ?_
  refine own_via (T3.setTop (mkF m 6 #[.val (.ref a1), .val (.int (Int32.ofNat ia)), .val (.int (Int32.ofNat ia)), .val (.int (Int32.ofNat (cs : List Int32).length)), .unset] [(.int (Int32.ofNat ia))])) (fun t k => XS.iloadN X3.here hx rfl (hb hby own_d17_5) rfl k) ?_
  refine own_via (T3.setTop (mkF m 7 #[.val (.ref a1), .val (.int (Int32.ofNat ia)), .val (.int (Int32.ofNat ia)), .val (.int (Int32.ofNat (cs : List Int32).length)), .unset] [(.int (Int32.ofNat ia)), (.int (Int32.ofNat ia))])) (fun t k => XS.iloadN X3.here hx rfl (hb hby own_d17_6) rfl k) ?_
  refine own_via (T3.setTop (mkF m 8 #[.val (.ref a1), .val (.int (Int32.ofNat ia)), .val (.int (Int32.ofNat ia)), .val (.int (Int32.ofNat (cs : List Int32).length)), .unset] [(.int (Int32.ofNat (cs : List Int32).length)), (.int (Int32.ofNat ia)), (.int (Int32.ofNat ia))])) (fun t k => XS.iloadN X3.here hx rfl (hb hby own_d17_7) rfl k) ?_
  obtain ⟨v4, T4, h4, L4, X4, e4, q4, st4⟩ := own_cS X3 hx hZ hown (hw _ (List.mem_of_getElem? (i := 79) rfl)) (hw _ (List.mem_of_getElem? (i := 80) rfl)) (hw _ (List.mem_of_getElem? (i := 6) rfl)) (hw _ (List.mem_of_getElem? (i := 81) rfl)) (by decide) (W := 0) (own_bk (rm_cBE l Z a0 hw (Int32.ofNat ia) (Int32.ofNat ia) (Int32.ofNat (cs : List Int32).length) fm h0 n0 (by omega) pf5 pf6 rfm (own_nneg (by omega)) (own_onlt (by omega) (by omega)) (own_onlt (by omega) (by omega))) hZ (hw _ (List.mem_of_getElem? (i := 81) rfl)) (hw _ (List.mem_of_getElem? (i := 6) rfl)) (by decide) (by decide)) e3 (Ls := #[.val (.ref a1), .val (.int (Int32.ofNat ia)), .val (.int (Int32.ofNat ia)), .val (.int (Int32.ofNat (cs : List Int32).length)), .unset]) (by rw [hml]; rfl) (argsL := [(.int (Int32.ofNat ia)), (.int (Int32.ofNat ia)), (.int (Int32.ofNat (cs : List Int32).length))]) (rest := []) rfl (lenOf own_pd41083283 rfl) rfl (Nat.le_of_eq rfl) (hb hby own_d17_8) (by decide) (by decide)
  obtain ⟨rfl, Nq4, eq4⟩ := q4
  have N4 := Fr.app N3 Nq4
  replace e4 := e4.trans eq4
  refine own_via (T4.setTop (mkF m 11 #[.val (.ref a1), .val (.int (Int32.ofNat ia)), .val (.int (Int32.ofNat ia)), .val (.int (Int32.ofNat (cs : List Int32).length)), .unset] [])) (st4) ?_
  refine own_via (T4.setTop (mkF m 12 #[.val (.ref a1), .val (.int (Int32.ofNat ia)), .val (.int (Int32.ofNat ia)), .val (.int (Int32.ofNat (cs : List Int32).length)), .unset] [(.int (Int32.ofNat ia))])) (fun t k => XS.iloadN X4.here hx rfl (hb hby own_d17_11) rfl k) ?_
  by_cases hz : (Int32.ofNat ia) = 0
  · refine own_via (T4.setTop (mkF m 15 #[.val (.ref a1), .val (.int (Int32.ofNat ia)), .val (.int (Int32.ofNat ia)), .val (.int (Int32.ofNat (cs : List Int32).length)), .unset] [])) (fun t k => XS.ifNo X4.here hx rfl (hb hby own_d17_12) rfl (XT.i0_ne_f hz) k) ?_
    refine own_via (T4.setTop (mkF m 16 #[.val (.ref a1), .val (.int (Int32.ofNat ia)), .val (.int (Int32.ofNat ia)), .val (.int (Int32.ofNat (cs : List Int32).length)), .unset] [(.int (Int32.ofNat ia))])) (fun t k => XS.iloadN X4.here hx rfl (hb hby own_d17_15) rfl k) ?_
    refine own_via (T4.setTop (mkF m 17 #[.val (.ref a1), .val (.int (Int32.ofNat ia)), .val (.int (Int32.ofNat ia)), .val (.int (Int32.ofNat (cs : List Int32).length)), .unset] [(.int (Int32.ofNat (cs : List Int32).length)), (.int (Int32.ofNat ia))])) (fun t k => XS.iloadN X4.here hx rfl (hb hby own_d17_16) rfl k) ?_
    refine own_via (T4.setTop (mkF m 22 #[.val (.ref a1), .val (.int (Int32.ofNat ia)), .val (.int (Int32.ofNat ia)), .val (.int (Int32.ofNat (cs : List Int32).length)), .unset] [])) (fun t k => XS.icmpYes X4.here hx rfl (pc0 := 17) (pc' := 22) rfl (hb hby own_d17_17) rfl (XT.ii_ne_t (fun q => hnf (by have q1 := own_oinj (n := 0) (by omega) (by omega) hz; have q2 := own_oinj (by omega) (by omega) q; omega))) (by decide) (by decide) k) ?_
    refine own_via (T4.setTop (mkF m 23 #[.val (.ref a1), .val (.int (Int32.ofNat ia)), .val (.int (Int32.ofNat ia)), .val (.int (Int32.ofNat (cs : List Int32).length)), .unset] [(.int (Int32.ofNat ia))])) (fun t k => XS.iloadN X4.here hx rfl (hb hby own_d17_22) rfl k) ?_
    refine own_via (T4.setTop (mkF m 24 #[.val (.ref a1), .val (.int (Int32.ofNat ia)), .val (.int (Int32.ofNat ia)), .val (.int (Int32.ofNat (cs : List Int32).length)), .unset] [(.int (Int32.ofNat ia)), (.int (Int32.ofNat ia))])) (fun t k => XS.iloadN X4.here hx rfl (hb hby own_d17_23) rfl k) ?_
    refine own_via (T4.setTop (mkF m 25 #[.val (.ref a1), .val (.int (Int32.ofNat ia)), .val (.int (Int32.ofNat ia)), .val (.int (Int32.ofNat (cs : List Int32).length)), .unset] [(.int ((Int32.ofNat ia) - (Int32.ofNat ia)))])) (fun t k => XS.isub X4.here hx rfl (hb hby own_d17_24) rfl k) ?_
    rw [Int32.sub_self]
    refine own_via (T4.setTop (mkF m 27 #[.val (.ref a1), .val (.int (Int32.ofNat ia)), .val (.int (Int32.ofNat ia)), .val (.int (Int32.ofNat (cs : List Int32).length)), .val (.int (0 : Int32))] [])) (fun t k => XS.istore X4.here hx rfl (hb hby own_d17_25) rfl (l' := #[.val (.ref a1), .val (.int (Int32.ofNat ia)), .val (.int (Int32.ofNat ia)), .val (.int (Int32.ofNat (cs : List Int32).length)), .val (.int (0 : Int32))]) rfl k) ?_
    refine own_via (T4.setTop (mkF m 28 #[.val (.ref a1), .val (.int (Int32.ofNat ia)), .val (.int (Int32.ofNat ia)), .val (.int (Int32.ofNat (cs : List Int32).length)), .val (.int (0 : Int32))] [(.ref a1)])) (fun t k => XS.aloadN X4.here hx rfl (hb hby own_d17_27) rfl rfl k) ?_
    obtain ⟨v5, T5, h5, L5, X5, e5, q5, st5⟩ := own_cV X4 hx hZ (y := (⟨"java/lang/String", "isLatin1", "()Z"⟩ : MethodName)) (z := (⟨"java/lang/String", "isLatin1", "()Z"⟩ : MethodName)) hown (hw _ (List.mem_of_getElem? (i := 58) rfl)) (hw _ (List.mem_of_getElem? (i := 59) rfl)) (notFace_of_selects (args := #[]) (mvT hZ (hw _ (List.mem_of_getElem? (i := 61) rfl)))) (hw _ (List.mem_of_getElem? (i := 61) rfl)) (hw _ (List.mem_of_getElem? (i := 60) rfl)) (by decide) (W := 0) (own_bk (rm_isLatin1 l Z a0 hw a1 G1 h0 n0 (by omega) pf2 pf4 pf6 hG1) hZ (hw _ (List.mem_of_getElem? (i := 62) rfl)) (hw _ (List.mem_of_getElem? (i := 6) rfl)) (by decide) (by decide)) e4 pf0 (Ls := #[.val (.ref a1), .val (.int (Int32.ofNat ia)), .val (.int (Int32.ofNat ia)), .val (.int (Int32.ofNat (cs : List Int32).length)), .val (.int (0 : Int32))]) (by rw [hml]; rfl) (argsL := []) (rest := []) rfl (lenOf own_pd48405890 rfl) rfl (Nat.le_of_eq rfl) (hb hby own_d17_28) (by decide) (by decide)
    obtain ⟨rfl, Nq5, eq5⟩ := q5
    have N5 := Fr.app N4 Nq5
    replace e5 := e5.trans eq5
    refine own_via (T5.setTop (mkF m 31 #[.val (.ref a1), .val (.int (Int32.ofNat ia)), .val (.int (Int32.ofNat ia)), .val (.int (Int32.ofNat (cs : List Int32).length)), .val (.int (0 : Int32))] [(.int (1 : Int32))])) (st5) ?_
    refine own_via (T5.setTop (mkF m 34 #[.val (.ref a1), .val (.int (Int32.ofNat ia)), .val (.int (Int32.ofNat ia)), .val (.int (Int32.ofNat (cs : List Int32).length)), .val (.int (0 : Int32))] [])) (fun t k => XS.ifNo X5.here hx rfl (hb hby own_d17_31) rfl (by decide) k) ?_
    refine own_via (T5.setTop (mkF m 35 #[.val (.ref a1), .val (.int (Int32.ofNat ia)), .val (.int (Int32.ofNat ia)), .val (.int (Int32.ofNat (cs : List Int32).length)), .val (.int (0 : Int32))] [(.ref a1)])) (fun t k => XS.aloadN X5.here hx rfl (hb hby own_d17_34) rfl rfl k) ?_
    obtain ⟨T6, X6, e6, st6⟩ := getF X5 hx hZ hown (host := "") (Or.inl (hw _ (List.mem_of_getElem? (i := 32) rfl))) Via.refl e5 pf1 (g := (mkF m 35 #[.val (.ref a1), .val (.int (Int32.ofNat ia)), .val (.int (Int32.ofNat ia)), .val (.int (Int32.ofNat (cs : List Int32).length)), .val (.int (0 : Int32))] [(.ref a1)])) rfl rfl (hb hby own_d17_35)
    refine own_via (T6.setTop (mkF m 38 #[.val (.ref a1), .val (.int (Int32.ofNat ia)), .val (.int (Int32.ofNat ia)), .val (.int (Int32.ofNat (cs : List Int32).length)), .val (.int (0 : Int32))] [(.ref t1)])) (st6) ?_
    refine own_via (T6.setTop (mkF m 39 #[.val (.ref a1), .val (.int (Int32.ofNat ia)), .val (.int (Int32.ofNat ia)), .val (.int (Int32.ofNat (cs : List Int32).length)), .val (.int (0 : Int32))] [(.int (Int32.ofNat ia)), (.ref t1)])) (fun t k => XS.iloadN X6.here hx rfl (hb hby own_d17_38) rfl k) ?_
    refine own_via (T6.setTop (mkF m 41 #[.val (.ref a1), .val (.int (Int32.ofNat ia)), .val (.int (Int32.ofNat ia)), .val (.int (Int32.ofNat (cs : List Int32).length)), .val (.int (0 : Int32))] [(.int (0 : Int32)), (.int (Int32.ofNat ia)), (.ref t1)])) (fun t k => XS.iload X6.here hx rfl (hb hby own_d17_39) rfl k) ?_
    obtain ⟨v7, T7, h7, L7, X7, e7, q7, hS7, hZ7, hown7, C7, st7⟩ := own_cSH X6 hx hZ hown (hw _ (List.mem_of_getElem? (i := 87) rfl)) (hw _ (List.mem_of_getElem? (i := 88) rfl)) (hw _ (List.mem_of_getElem? (i := 65) rfl)) (hw _ (List.mem_of_getElem? (i := 89) rfl)) (by decide) (W := 0) (own_bkH (rm_newStr0 l Z a0 hw t1 (Int32.ofNat ia) h0 n0 (by omega)) hZ (hw _ (List.mem_of_getElem? (i := 89) rfl)) (hw _ (List.mem_of_getElem? (i := 65) rfl)) (by decide) (by decide) (own_EW hw) C0.1) e6 hS0 (by omega) (Ls := #[.val (.ref a1), .val (.int (Int32.ofNat ia)), .val (.int (Int32.ofNat ia)), .val (.int (Int32.ofNat (cs : List Int32).length)), .val (.int (0 : Int32))]) (by rw [hml]; rfl) (argsL := [(.ref t1), (.int (Int32.ofNat ia)), (.int (0 : Int32))]) (rest := []) rfl (lenOf own_pd48841184 rfl) rfl (Nat.le_of_eq rfl) (hb hby own_d17_41) (by decide) (by decide)
    have hZ7 : Z.Warmed39 (s.setVm T7.vm).vm := hZ7
    obtain ⟨b_7, tb_7, kc_7, rfl, Nq7, Kq7, f8, f9, f10, f11⟩ := q7
    have N7 := Fr.app N5 Nq7
    have sz_h7 : h0.size ≤ h7.size := Kq7.1
    have K_h7 : Keep h0 h7 [] := (Keep.refl h0 []).trans Kq7 all0
    have C_h7 : CHr Z own_EL s.vm h0 T7.vm h7 := C0.trans C7
    have lt_b_7 : @LT.lt Nat _ b_7 h7.size := f8.lt
    have lt_tb_7 : @LT.lt Nat _ tb_7 h7.size := f11.lt
    refine own_via (T7.setTop (mkF m 44 #[.val (.ref a1), .val (.int (Int32.ofNat ia)), .val (.int (Int32.ofNat ia)), .val (.int (Int32.ofNat (cs : List Int32).length)), .val (.int (0 : Int32))] [(.ref b_7)])) (st7) ?_
    refine own_via (T7.setTop (mkF m 57 #[.val (.ref a1), .val (.int (Int32.ofNat ia)), .val (.int (Int32.ofNat ia)), .val (.int (Int32.ofNat (cs : List Int32).length)), .val (.int (0 : Int32))] [(.ref b_7)])) (fun t k => XS.goto X7.here hx rfl (pc0 := 44) (pc' := 57) rfl (hb hby own_d17_44) (by decide) (by decide) k) ?_
    exact own_leaveH X7 hlk hZ7 (own_EW hw) hS7 (by omega) e7 C_h7 (v := some (.ref b_7)) (fun h => by rw [hret] at h; cases h) (⟨b_7, tb_7, kc_7, rfl, N7, K_h7, f8, f9, f10, f11⟩) (by decide) (by decide) (fun fs hr => own_retAH X7 hx hret rfl rfl (hb hby own_d17_57) hr)
  · refine own_via (T4.setTop (mkF m 22 #[.val (.ref a1), .val (.int (Int32.ofNat ia)), .val (.int (Int32.ofNat ia)), .val (.int (Int32.ofNat (cs : List Int32).length)), .unset] [])) (fun t k => XS.ifYes X4.here hx rfl (pc0 := 12) (pc' := 22) rfl (hb hby own_d17_12) rfl (XT.i0_ne_t hz) (by decide) (by decide) k) ?_
    refine own_via (T4.setTop (mkF m 23 #[.val (.ref a1), .val (.int (Int32.ofNat ia)), .val (.int (Int32.ofNat ia)), .val (.int (Int32.ofNat (cs : List Int32).length)), .unset] [(.int (Int32.ofNat ia))])) (fun t k => XS.iloadN X4.here hx rfl (hb hby own_d17_22) rfl k) ?_
    refine own_via (T4.setTop (mkF m 24 #[.val (.ref a1), .val (.int (Int32.ofNat ia)), .val (.int (Int32.ofNat ia)), .val (.int (Int32.ofNat (cs : List Int32).length)), .unset] [(.int (Int32.ofNat ia)), (.int (Int32.ofNat ia))])) (fun t k => XS.iloadN X4.here hx rfl (hb hby own_d17_23) rfl k) ?_
    refine own_via (T4.setTop (mkF m 25 #[.val (.ref a1), .val (.int (Int32.ofNat ia)), .val (.int (Int32.ofNat ia)), .val (.int (Int32.ofNat (cs : List Int32).length)), .unset] [(.int ((Int32.ofNat ia) - (Int32.ofNat ia)))])) (fun t k => XS.isub X4.here hx rfl (hb hby own_d17_24) rfl k) ?_
    rw [Int32.sub_self]
    refine own_via (T4.setTop (mkF m 27 #[.val (.ref a1), .val (.int (Int32.ofNat ia)), .val (.int (Int32.ofNat ia)), .val (.int (Int32.ofNat (cs : List Int32).length)), .val (.int (0 : Int32))] [])) (fun t k => XS.istore X4.here hx rfl (hb hby own_d17_25) rfl (l' := #[.val (.ref a1), .val (.int (Int32.ofNat ia)), .val (.int (Int32.ofNat ia)), .val (.int (Int32.ofNat (cs : List Int32).length)), .val (.int (0 : Int32))]) rfl k) ?_
    refine own_via (T4.setTop (mkF m 28 #[.val (.ref a1), .val (.int (Int32.ofNat ia)), .val (.int (Int32.ofNat ia)), .val (.int (Int32.ofNat (cs : List Int32).length)), .val (.int (0 : Int32))] [(.ref a1)])) (fun t k => XS.aloadN X4.here hx rfl (hb hby own_d17_27) rfl rfl k) ?_
    obtain ⟨v12, T12, h12, L12, X12, e12, q12, st12⟩ := own_cV X4 hx hZ (y := (⟨"java/lang/String", "isLatin1", "()Z"⟩ : MethodName)) (z := (⟨"java/lang/String", "isLatin1", "()Z"⟩ : MethodName)) hown (hw _ (List.mem_of_getElem? (i := 58) rfl)) (hw _ (List.mem_of_getElem? (i := 59) rfl)) (notFace_of_selects (args := #[]) (mvT hZ (hw _ (List.mem_of_getElem? (i := 61) rfl)))) (hw _ (List.mem_of_getElem? (i := 61) rfl)) (hw _ (List.mem_of_getElem? (i := 60) rfl)) (by decide) (W := 0) (own_bk (rm_isLatin1 l Z a0 hw a1 G1 h0 n0 (by omega) pf2 pf4 pf6 hG1) hZ (hw _ (List.mem_of_getElem? (i := 62) rfl)) (hw _ (List.mem_of_getElem? (i := 6) rfl)) (by decide) (by decide)) e4 pf0 (Ls := #[.val (.ref a1), .val (.int (Int32.ofNat ia)), .val (.int (Int32.ofNat ia)), .val (.int (Int32.ofNat (cs : List Int32).length)), .val (.int (0 : Int32))]) (by rw [hml]; rfl) (argsL := []) (rest := []) rfl (lenOf own_pd48405890 rfl) rfl (Nat.le_of_eq rfl) (hb hby own_d17_28) (by decide) (by decide)
    obtain ⟨rfl, Nq12, eq12⟩ := q12
    have N12 := Fr.app N4 Nq12
    replace e12 := e12.trans eq12
    refine own_via (T12.setTop (mkF m 31 #[.val (.ref a1), .val (.int (Int32.ofNat ia)), .val (.int (Int32.ofNat ia)), .val (.int (Int32.ofNat (cs : List Int32).length)), .val (.int (0 : Int32))] [(.int (1 : Int32))])) (st12) ?_
    refine own_via (T12.setTop (mkF m 34 #[.val (.ref a1), .val (.int (Int32.ofNat ia)), .val (.int (Int32.ofNat ia)), .val (.int (Int32.ofNat (cs : List Int32).length)), .val (.int (0 : Int32))] [])) (fun t k => XS.ifNo X12.here hx rfl (hb hby own_d17_31) rfl (by decide) k) ?_
    refine own_via (T12.setTop (mkF m 35 #[.val (.ref a1), .val (.int (Int32.ofNat ia)), .val (.int (Int32.ofNat ia)), .val (.int (Int32.ofNat (cs : List Int32).length)), .val (.int (0 : Int32))] [(.ref a1)])) (fun t k => XS.aloadN X12.here hx rfl (hb hby own_d17_34) rfl rfl k) ?_
    obtain ⟨T13, X13, e13, st13⟩ := getF X12 hx hZ hown (host := "") (Or.inl (hw _ (List.mem_of_getElem? (i := 32) rfl))) Via.refl e12 pf1 (g := (mkF m 35 #[.val (.ref a1), .val (.int (Int32.ofNat ia)), .val (.int (Int32.ofNat ia)), .val (.int (Int32.ofNat (cs : List Int32).length)), .val (.int (0 : Int32))] [(.ref a1)])) rfl rfl (hb hby own_d17_35)
    refine own_via (T13.setTop (mkF m 38 #[.val (.ref a1), .val (.int (Int32.ofNat ia)), .val (.int (Int32.ofNat ia)), .val (.int (Int32.ofNat (cs : List Int32).length)), .val (.int (0 : Int32))] [(.ref t1)])) (st13) ?_
    refine own_via (T13.setTop (mkF m 39 #[.val (.ref a1), .val (.int (Int32.ofNat ia)), .val (.int (Int32.ofNat ia)), .val (.int (Int32.ofNat (cs : List Int32).length)), .val (.int (0 : Int32))] [(.int (Int32.ofNat ia)), (.ref t1)])) (fun t k => XS.iloadN X13.here hx rfl (hb hby own_d17_38) rfl k) ?_
    refine own_via (T13.setTop (mkF m 41 #[.val (.ref a1), .val (.int (Int32.ofNat ia)), .val (.int (Int32.ofNat ia)), .val (.int (Int32.ofNat (cs : List Int32).length)), .val (.int (0 : Int32))] [(.int (0 : Int32)), (.int (Int32.ofNat ia)), (.ref t1)])) (fun t k => XS.iload X13.here hx rfl (hb hby own_d17_39) rfl k) ?_
    obtain ⟨v14, T14, h14, L14, X14, e14, q14, hS14, hZ14, hown14, C14, st14⟩ := own_cSH X13 hx hZ hown (hw _ (List.mem_of_getElem? (i := 87) rfl)) (hw _ (List.mem_of_getElem? (i := 88) rfl)) (hw _ (List.mem_of_getElem? (i := 65) rfl)) (hw _ (List.mem_of_getElem? (i := 89) rfl)) (by decide) (W := 0) (own_bkH (rm_newStr0 l Z a0 hw t1 (Int32.ofNat ia) h0 n0 (by omega)) hZ (hw _ (List.mem_of_getElem? (i := 89) rfl)) (hw _ (List.mem_of_getElem? (i := 65) rfl)) (by decide) (by decide) (own_EW hw) C0.1) e13 hS0 (by omega) (Ls := #[.val (.ref a1), .val (.int (Int32.ofNat ia)), .val (.int (Int32.ofNat ia)), .val (.int (Int32.ofNat (cs : List Int32).length)), .val (.int (0 : Int32))]) (by rw [hml]; rfl) (argsL := [(.ref t1), (.int (Int32.ofNat ia)), (.int (0 : Int32))]) (rest := []) rfl (lenOf own_pd48841184 rfl) rfl (Nat.le_of_eq rfl) (hb hby own_d17_41) (by decide) (by decide)
    have hZ14 : Z.Warmed39 (s.setVm T14.vm).vm := hZ14
    obtain ⟨b_14, tb_14, kc_14, rfl, Nq14, Kq14, f15, f16, f17, f18⟩ := q14
    have N14 := Fr.app N12 Nq14
    have sz_h14 : h0.size ≤ h14.size := Kq14.1
    have K_h14 : Keep h0 h14 [] := (Keep.refl h0 []).trans Kq14 all0
    have C_h14 : CHr Z own_EL s.vm h0 T14.vm h14 := C0.trans C14
    have lt_b_14 : @LT.lt Nat _ b_14 h14.size := f15.lt
    have lt_tb_14 : @LT.lt Nat _ tb_14 h14.size := f18.lt
    refine own_via (T14.setTop (mkF m 44 #[.val (.ref a1), .val (.int (Int32.ofNat ia)), .val (.int (Int32.ofNat ia)), .val (.int (Int32.ofNat (cs : List Int32).length)), .val (.int (0 : Int32))] [(.ref b_14)])) (st14) ?_
    refine own_via (T14.setTop (mkF m 57 #[.val (.ref a1), .val (.int (Int32.ofNat ia)), .val (.int (Int32.ofNat ia)), .val (.int (Int32.ofNat (cs : List Int32).length)), .val (.int (0 : Int32))] [(.ref b_14)])) (fun t k => XS.goto X14.here hx rfl (pc0 := 44) (pc' := 57) rfl (hb hby own_d17_44) (by decide) (by decide) k) ?_
    exact own_leaveH X14 hlk hZ14 (own_EW hw) hS14 (by omega) e14 C_h14 (v := some (.ref b_14)) (fun h => by rw [hret] at h; cases h) (⟨b_14, tb_14, kc_14, rfl, N14, K_h14, f15, f16, f17, f18⟩) (by decide) (by decide) (fun fs hr => own_retAH X14 hx hret rfl rfl (hb hby own_d17_57) hr)
theorem own_pn12151945 : plainFor (⟨"com/example/keyhole_limpet/keyholelimpet/OwnerIdentity", "clientIdOf", "(Ljava/lang/String;)Ljava/lang/String;"⟩ : MethodName) = true := by first | exact Jvm.Free.JP.mathPlain rfl (by decide +kernel) | exact plainFor_of_name (by first | (simp [plainName, overriddenIn]; done) | decide +kernel) | decide +kernel
theorem own_d8_0 : decode prog_5_method_3_code 0 = .ok (.aload_n 0, 1) := by decide +kernel
theorem own_d8_1 : decode prog_5_method_3_code 1 = .ok (.iconst 0, 1) := by decide +kernel
theorem own_d8_2 : decode prog_5_method_3_code 2 = .ok (.aload_n 0, 1) := by decide +kernel
theorem own_d8_3 : decode prog_5_method_3_code 3 = .ok (.bipush 58, 2) := by decide +kernel
theorem own_d8_5 : decode prog_5_method_3_code 5 = .ok (.invokevirtual 41, 3) := by decide +kernel
theorem own_pd83894285 : parseMethodDescriptor "(I)I" = some ⟨[.int], some .int⟩ := by decide +kernel
theorem own_d8_8 : decode prog_5_method_3_code 8 = .ok (.invokevirtual 47, 3) := by decide +kernel
theorem own_pd88990046 : parseMethodDescriptor "(II)Ljava/lang/String;" = some ⟨[.int, .int], some (.object "java/lang/String")⟩ := by decide +kernel
theorem own_d8_11 : decode prog_5_method_3_code 11 = .ok (.areturn, 1) := by decide +kernel
theorem own_ef_rm_coN (m : MethodId) (x0 : Addr) : entryFrame m #[(.ref x0)] 1 = mkF m 0 #[.val (.ref x0)] [] := by first | (simp [entryFrame, mkF, argsToLocals, Value.category]; done) | rfl
def Q_rm_coN (Z : State) (a1 : Nat) (t1 : Nat) (kb : ClassId) (cs : List Int32) (G1 : Int32) (fm : Value) (mm : Nat) (h0 : Heap) (n0 : Nat) (v : Option Value) (h : Heap) (L : List Loc) : Prop := ∃ (b : Nat) (tb : Nat) (kc : ClassId), v = some (.ref b) ∧ Fr n0 L ∧ Keep h0 h [] ∧ Exa Z h b "java/lang/String" ∧ Fld Z h b "java/lang/String" "value" "[B" (.ref tb) ∧ Fld Z h b "java/lang/String" "coder" "B" (.int (0 : Int32)) ∧ Arv Z h tb kc .byte (Int32.ofNat ((cs.drop 0).take mm).length) (own_BS ((cs.drop 0).take mm)) (.int 0)
set_option maxRecDepth 65536 in
set_option maxHeartbeats 40000000 in
theorem rm_coN (l : Launch) (Z : State) (a0 : Array Value) (hw : ∀ d ∈ tables_1, d.before a0 Z = true) (a1 : Nat) (t1 : Nat) (kb : ClassId) (cs : List Int32) (G1 : Int32) (fm : Value) (mm : Nat) (h0 : Heap) (n0 : Nat) (Z0 : n0 ≤ h0.size) (pf0 : Exa Z h0 a1 "java/lang/String") (pf1 : Fld Z h0 a1 "java/lang/String" "value" "[B" (.ref t1)) (pf2 : Fld Z h0 a1 "java/lang/String" "coder" "B" (.int (0 : Int32))) (pf3 : Arv Z h0 t1 kb .byte (Int32.ofNat cs.length) (own_BS cs) (.int 0)) (pf4 : Sta Z Z.heap "java/lang/String" "COMPACT_STRINGS" "Z" (.int G1)) (pf5 : Sta Z Z.heap "jdk/internal/util/Preconditions" "SIOOBE_FORMATTER" "Ljava/util/function/BiFunction;" fm) (pf6 : Old Z n0 h0) (hl : cs.length ≤ 4) (hp : ∀ c ∈ cs, ¬ c < 0 ∧ ¬ (255 : Int32) < c) (hG1 : ¬ G1 = 0) (rfm : fm.isRef = true) (hli : own_li cs cs.length = Int32.ofNat mm) (hm : 0 < mm) (hlt : mm < cs.length) :
    own_CT l Z (⟨"com/example/keyhole_limpet/keyholelimpet/OwnerIdentity", "clientIdOf", "(Ljava/lang/String;)Ljava/lang/String;"⟩ : MethodName) prog_5_method_3_code 1 (some (.object "java/lang/String")) ({ frames := 5, cells := 2, slots := 8, locals := 102 } : Room) #[(.ref a1)] h0 (Q_rm_coN Z a1 t1 kb cs G1 fm mm h0 n0) := by
  refine own_of own_pn12151945 (Ls := #[.val (.ref a1)]) (fun m => own_ef_rm_coN m a1) ?_
  intro p e s m below meth c T0 X0 hx hby hml hown hnm hret hZ e0 hlk
  have hown : s.vm.findClass "com/example/keyhole_limpet/keyholelimpet/OwnerIdentity" = some m.cls := hown
  have N0 := Fr.nil n0
  have lt_a1 : @LT.lt Nat _ a1 h0.size := pf0.lt
  have lt_t1 : @LT.lt Nat _ t1 h0.size := pf3.lt
  refine own_via (T0.setTop (mkF m 1 #[.val (.ref a1)] [(.ref a1)])) (fun t k => XS.aloadN X0.here hx rfl (hb hby own_d8_0) rfl rfl k) ?_
  refine own_via (T0.setTop (mkF m 2 #[.val (.ref a1)] [(.int (0 : Int32)), (.ref a1)])) (fun t k => XS.iconst X0.here hx rfl (hb hby own_d8_1) k) ?_
  refine own_via (T0.setTop (mkF m 3 #[.val (.ref a1)] [(.ref a1), (.int (0 : Int32)), (.ref a1)])) (fun t k => XS.aloadN X0.here hx rfl (hb hby own_d8_2) rfl rfl k) ?_
  refine own_via (T0.setTop (mkF m 5 #[.val (.ref a1)] [(.int (58 : Int32)), (.ref a1), (.int (0 : Int32)), (.ref a1)])) (fun t k => XS.bipush X0.here hx rfl (hb hby own_d8_3) k) ?_
  obtain ⟨v1, T1, h1, L1, X1, e1, q1, st1⟩ := own_cV X0 hx hZ (y := (⟨"java/lang/String", "lastIndexOf", "(I)I"⟩ : MethodName)) (z := (⟨"java/lang/String", "lastIndexOf", "(I)I"⟩ : MethodName)) hown (hw _ (List.mem_of_getElem? (i := 38) rfl)) (hw _ (List.mem_of_getElem? (i := 39) rfl)) (notFace_of_selects (args := #[]) (mvT hZ (hw _ (List.mem_of_getElem? (i := 41) rfl)))) (hw _ (List.mem_of_getElem? (i := 41) rfl)) (hw _ (List.mem_of_getElem? (i := 40) rfl)) (by decide) (W := 2) (own_bk (rm_last1 l Z a0 hw a1 t1 kb cs G1 h0 n0 (by omega) pf0 pf1 pf2 pf3 pf4 pf6 hl hp hG1) hZ (hw _ (List.mem_of_getElem? (i := 42) rfl)) (hw _ (List.mem_of_getElem? (i := 6) rfl)) (by decide) (by decide)) e0 pf0 (Ls := #[.val (.ref a1)]) (by rw [hml]; rfl) (argsL := [(.int (58 : Int32))]) (rest := [(.int (0 : Int32)), (.ref a1)]) rfl (lenOf own_pd83894285 rfl) rfl (Nat.le_of_eq rfl) (hb hby own_d8_5) (by decide) (by decide)
  obtain ⟨rfl, Nq1, eq1⟩ := q1
  have N1 := Fr.app N0 Nq1
  replace e1 := e1.trans eq1
  refine own_via (T1.setTop (mkF m 8 #[.val (.ref a1)] [(.int (own_li cs cs.length)), (.int (0 : Int32)), (.ref a1)])) (st1) ?_
  obtain ⟨v2, T2, h2, L2, X2, e2, q2, st2⟩ := own_cV X1 hx hZ (y := (⟨"java/lang/String", "substring", "(II)Ljava/lang/String;"⟩ : MethodName)) (z := (⟨"java/lang/String", "substring", "(II)Ljava/lang/String;"⟩ : MethodName)) hown (hw _ (List.mem_of_getElem? (i := 74) rfl)) (hw _ (List.mem_of_getElem? (i := 75) rfl)) (notFace_of_selects (args := #[]) (mvT hZ (hw _ (List.mem_of_getElem? (i := 77) rfl)))) (hw _ (List.mem_of_getElem? (i := 77) rfl)) (hw _ (List.mem_of_getElem? (i := 76) rfl)) (by decide) (W := 0) (own_bk (rm_sub l Z a0 hw a1 t1 kb cs (0 : Int32) (own_li cs cs.length) 0 G1 fm mm h0 n0 (by omega) pf0 pf1 pf2 pf3 pf4 pf5 pf6 rfl (by rw [hli, Nat.zero_add]) (by omega) hl (by omega) hm hG1 rfm hp) hZ (hw _ (List.mem_of_getElem? (i := 78) rfl)) (hw _ (List.mem_of_getElem? (i := 6) rfl)) (by decide) (by decide)) e1 pf0 (Ls := #[.val (.ref a1)]) (by rw [hml]; rfl) (argsL := [(.int (0 : Int32)), (.int (own_li cs cs.length))]) (rest := []) rfl (lenOf own_pd88990046 rfl) rfl (Nat.le_of_eq rfl) (hb hby own_d8_8) (by decide) (by decide)
  obtain ⟨b_2, tb_2, kc_2, rfl, Nq2, Kq2, f3, f4, f5, f6, m2_0, m2_1⟩ := q2
  have N2 := Fr.app N1 Nq2
  have sz_h2 : h0.size ≤ h2.size := Kq2.1
  have K_h2 : Keep h0 h2 [] := (Keep.refl h0 []).trans Kq2 all0
  have lt_b_2 : @LT.lt Nat _ b_2 h2.size := f3.lt
  have lt_tb_2 : @LT.lt Nat _ tb_2 h2.size := f6.lt
  refine own_via (T2.setTop (mkF m 11 #[.val (.ref a1)] [(.ref b_2)])) (st2) ?_
  exact own_retA X2 hx hlk hret rfl rfl (hb hby own_d8_11) e2 (⟨b_2, tb_2, kc_2, rfl, N2, K_h2, f3, f4, f5, f6⟩) (by decide) (by decide)
theorem own_ef_rm_coZ (m : MethodId) (x0 : Addr) : entryFrame m #[(.ref x0)] 1 = mkF m 0 #[.val (.ref x0)] [] := by first | (simp [entryFrame, mkF, argsToLocals, Value.category]; done) | rfl
def Q_rm_coZ (Z : State) (a1 : Nat) (t1 : Nat) (kb : ClassId) (cs : List Int32) (G1 : Int32) (fm : Value) (h0 : Heap) (n0 : Nat) (v : Option Value) (h : Heap) (L : List Loc) : Prop := ∃ (b : Nat) (tb : Nat) (kc : ClassId), v = some (.ref b) ∧ Fr n0 L ∧ Keep h0 h [] ∧ Exa Z h b "java/lang/String" ∧ Fld Z h b "java/lang/String" "value" "[B" (.ref tb) ∧ Fld Z h b "java/lang/String" "coder" "B" (.int (0 : Int32)) ∧ Arv Z h tb kc .byte (Int32.ofNat ([] : List Int32).length) (own_BS ([] : List Int32)) (.int 0)
set_option maxRecDepth 65536 in
set_option maxHeartbeats 40000000 in
theorem rm_coZ (l : Launch) (Z : State) (a0 : Array Value) (hw : ∀ d ∈ tables_1, d.before a0 Z = true) (a1 : Nat) (t1 : Nat) (kb : ClassId) (cs : List Int32) (G1 : Int32) (fm : Value) (h0 : Heap) (n0 : Nat) (Z0 : n0 ≤ h0.size) (pf0 : Exa Z h0 a1 "java/lang/String") (pf1 : Fld Z h0 a1 "java/lang/String" "value" "[B" (.ref t1)) (pf2 : Fld Z h0 a1 "java/lang/String" "coder" "B" (.int (0 : Int32))) (pf3 : Arv Z h0 t1 kb .byte (Int32.ofNat cs.length) (own_BS cs) (.int 0)) (pf4 : Sta Z Z.heap "java/lang/String" "COMPACT_STRINGS" "Z" (.int G1)) (pf5 : Sta Z Z.heap "jdk/internal/util/Preconditions" "SIOOBE_FORMATTER" "Ljava/util/function/BiFunction;" fm) (pf6 : Old Z n0 h0) (hl : cs.length ≤ 4) (hp : ∀ c ∈ cs, ¬ c < 0 ∧ ¬ (255 : Int32) < c) (hG1 : ¬ G1 = 0) (rfm : fm.isRef = true) (hli : own_li cs cs.length = Int32.ofNat 0) (hlt : 0 < cs.length) :
    own_CTH l Z own_EL (⟨"com/example/keyhole_limpet/keyholelimpet/OwnerIdentity", "clientIdOf", "(Ljava/lang/String;)Ljava/lang/String;"⟩ : MethodName) prog_5_method_3_code 1 (some (.object "java/lang/String")) ({ frames := 4, cells := 2, slots := 4, locals := 57 } : Room) #[(.ref a1)] h0 (Q_rm_coZ Z a1 t1 kb cs G1 fm h0 n0) := by
  refine own_ofH own_pn12151945 (Ls := #[.val (.ref a1)]) (fun m => own_ef_rm_coZ m a1) ?_
  intro p e s m below meth c T0 X0 hx hby hml hown hnm hret hZ e0 hh0 hlk hS0 H0
  have C0 : CHr Z own_EL s.vm h0 s.vm h0 := CHr.refl H0
  have hown : s.vm.findClass "com/example/keyhole_limpet/keyholelimpet/OwnerIdentity" = some m.cls := hown
  have N0 := Fr.nil n0
  have lt_a1 : @LT.lt Nat _ a1 h0.size := pf0.lt
  have lt_t1 : @LT.lt Nat _ t1 h0.size := pf3.lt
  refine own_via (T0.setTop (mkF m 1 #[.val (.ref a1)] [(.ref a1)])) (fun t k => XS.aloadN X0.here hx rfl (hb hby own_d8_0) rfl rfl k) ?_
  refine own_via (T0.setTop (mkF m 2 #[.val (.ref a1)] [(.int (0 : Int32)), (.ref a1)])) (fun t k => XS.iconst X0.here hx rfl (hb hby own_d8_1) k) ?_
  refine own_via (T0.setTop (mkF m 3 #[.val (.ref a1)] [(.ref a1), (.int (0 : Int32)), (.ref a1)])) (fun t k => XS.aloadN X0.here hx rfl (hb hby own_d8_2) rfl rfl k) ?_
  refine own_via (T0.setTop (mkF m 5 #[.val (.ref a1)] [(.int (58 : Int32)), (.ref a1), (.int (0 : Int32)), (.ref a1)])) (fun t k => XS.bipush X0.here hx rfl (hb hby own_d8_3) k) ?_
  obtain ⟨v1, T1, h1, L1, X1, e1, q1, st1⟩ := own_cV X0 hx hZ (y := (⟨"java/lang/String", "lastIndexOf", "(I)I"⟩ : MethodName)) (z := (⟨"java/lang/String", "lastIndexOf", "(I)I"⟩ : MethodName)) hown (hw _ (List.mem_of_getElem? (i := 38) rfl)) (hw _ (List.mem_of_getElem? (i := 39) rfl)) (notFace_of_selects (args := #[]) (mvT hZ (hw _ (List.mem_of_getElem? (i := 41) rfl)))) (hw _ (List.mem_of_getElem? (i := 41) rfl)) (hw _ (List.mem_of_getElem? (i := 40) rfl)) (by decide) (W := 2) (own_bk (rm_last1 l Z a0 hw a1 t1 kb cs G1 h0 n0 (by omega) pf0 pf1 pf2 pf3 pf4 pf6 hl hp hG1) hZ (hw _ (List.mem_of_getElem? (i := 42) rfl)) (hw _ (List.mem_of_getElem? (i := 6) rfl)) (by decide) (by decide)) e0 pf0 (Ls := #[.val (.ref a1)]) (by rw [hml]; rfl) (argsL := [(.int (58 : Int32))]) (rest := [(.int (0 : Int32)), (.ref a1)]) rfl (lenOf own_pd83894285 rfl) rfl (Nat.le_of_eq rfl) (hb hby own_d8_5) (by decide) (by decide)
  obtain ⟨rfl, Nq1, eq1⟩ := q1
  have N1 := Fr.app N0 Nq1
  replace e1 := e1.trans eq1
  refine own_via (T1.setTop (mkF m 8 #[.val (.ref a1)] [(.int (own_li cs cs.length)), (.int (0 : Int32)), (.ref a1)])) (st1) ?_
  obtain ⟨v2, T2, h2, L2, X2, e2, q2, hS2, hZ2, hown2, C2, st2⟩ := own_cVH X1 hx hZ (y := (⟨"java/lang/String", "substring", "(II)Ljava/lang/String;"⟩ : MethodName)) (z := (⟨"java/lang/String", "substring", "(II)Ljava/lang/String;"⟩ : MethodName)) hown (hw _ (List.mem_of_getElem? (i := 74) rfl)) (hw _ (List.mem_of_getElem? (i := 75) rfl)) (notFace_of_selects (args := #[]) (mvT hZ (hw _ (List.mem_of_getElem? (i := 77) rfl)))) (hw _ (List.mem_of_getElem? (i := 77) rfl)) (hw _ (List.mem_of_getElem? (i := 76) rfl)) (by decide) (W := 0) (own_bkH (rm_sub0 l Z a0 hw a1 t1 kb cs (0 : Int32) (own_li cs cs.length) 0 G1 fm h0 n0 (by omega) pf0 pf1 pf2 pf3 pf4 pf5 pf6 rfl hli (by omega) hl (by omega) hG1 rfm hp) hZ (hw _ (List.mem_of_getElem? (i := 78) rfl)) (hw _ (List.mem_of_getElem? (i := 6) rfl)) (by decide) (by decide) (own_EW hw) C0.1) e1 hS0 (by omega) pf0 (Ls := #[.val (.ref a1)]) (by rw [hml]; rfl) (argsL := [(.int (0 : Int32)), (.int (own_li cs cs.length))]) (rest := []) rfl (lenOf own_pd88990046 rfl) rfl (Nat.le_of_eq rfl) (hb hby own_d8_8) (by decide) (by decide)
  have hZ2 : Z.Warmed39 (s.setVm T2.vm).vm := hZ2
  obtain ⟨b_2, tb_2, kc_2, rfl, Nq2, Kq2, f3, f4, f5, f6⟩ := q2
  have N2 := Fr.app N1 Nq2
  have sz_h2 : h0.size ≤ h2.size := Kq2.1
  have K_h2 : Keep h0 h2 [] := (Keep.refl h0 []).trans Kq2 all0
  have C_h2 : CHr Z own_EL s.vm h0 T2.vm h2 := C0.trans C2
  have lt_b_2 : @LT.lt Nat _ b_2 h2.size := f3.lt
  have lt_tb_2 : @LT.lt Nat _ tb_2 h2.size := f6.lt
  refine own_via (T2.setTop (mkF m 11 #[.val (.ref a1)] [(.ref b_2)])) (st2) ?_
  exact own_leaveH X2 hlk hZ2 (own_EW hw) hS2 (by omega) e2 C_h2 (v := some (.ref b_2)) (fun h => by rw [hret] at h; cases h) (⟨b_2, tb_2, kc_2, rfl, N2, K_h2, f3, f4, f5, f6⟩) (by decide) (by decide) (fun fs hr => own_retAH X2 hx hret rfl rfl (hb hby own_d8_11) hr)
theorem own_pn35448917 : plainFor (⟨"com/example/keyhole_limpet/keyholelimpet/OwnerIdentityClientIdOfPinLaw", "law", "(IIIII)Z"⟩ : MethodName) = true := by first | exact Jvm.Free.JP.mathPlain rfl (by decide +kernel) | exact plainFor_of_name (by first | (simp [plainName, overriddenIn]; done) | decide +kernel) | decide +kernel
theorem own_pd55318145 : parseMethodDescriptor "(I)C" = some ⟨[.int], some .char⟩ := by decide +kernel
theorem own_pd95987610 : parseMethodDescriptor "([C)V" = some ⟨[(.array .char)], none⟩ := by decide +kernel
theorem own_pd51720142 : parseMethodDescriptor "(Ljava/lang/String;)Ljava/lang/String;" = some ⟨[(.object "java/lang/String")], some (.object "java/lang/String")⟩ := by decide +kernel
theorem own_ef_rm_law (m : MethodId) (x0 : Int32) (x1 : Int32) (x2 : Int32) (x3 : Int32) (x4 : Int32) : entryFrame m #[(.int x0), (.int x1), (.int x2), (.int x3), (.int x4)] maxLocals = mkF m 0 #[.val (.int x0), .val (.int x1), .val (.int x2), .val (.int x3), .val (.int x4), .unset, .unset, .unset, .unset, .unset, .unset, .unset, .unset, .unset] [] := by first | (simp [entryFrame, mkF, argsToLocals, Value.category, maxLocals]; done) | rfl
def Q_rm_law (Z : State) (i0 : Int32) (i1 : Int32) (i2 : Int32) (i3 : Int32) (i4 : Int32) (G1 : Int32) (fm : Value) (h0 : Heap) (n0 : Nat) (v : Option Value) (h : Heap) (L : List Loc) : Prop := v = some (.int 1) ∧ Fr n0 L
set_option maxRecDepth 65536 in
set_option maxHeartbeats 40000000 in
theorem rm_law (l : Launch) (Z : State) (a0 : Array Value) (hw : ∀ d ∈ tables_1, d.before a0 Z = true) (i0 : Int32) (i1 : Int32) (i2 : Int32) (i3 : Int32) (i4 : Int32) (G1 : Int32) (fm : Value) (h0 : Heap) (n0 : Nat) (Z0 : n0 ≤ h0.size) (pf0 : Sta Z Z.heap "java/lang/String" "COMPACT_STRINGS" "Z" (.int G1)) (pf1 : Sta Z Z.heap "jdk/internal/util/Preconditions" "SIOOBE_FORMATTER" "Ljava/util/function/BiFunction;" fm) (pf2 : Old Z n0 h0) (hG1 : ¬ G1 = 0) (rfm : fm.isRef = true) :
    own_CTH l Z own_EL x code maxLocals ret room_1 #[(.int i0), (.int i1), (.int i2), (.int i3), (.int i4)] h0 (Q_rm_law Z i0 i1 i2 i3 i4 G1 fm h0 n0) := by
  refine own_ofH own_pn35448917 (Ls := #[.val (.int i0), .val (.int i1), .val (.int i2), .val (.int i3), .val (.int i4), .unset, .unset, .unset, .unset, .unset, .unset, .unset, .unset, .unset]) (fun m => own_ef_rm_law m i0 i1 i2 i3 i4) ?_
  intro p e s m below meth c T0 X0 hx hby hml hown hnm hret hZ e0 hh0 hlk hS0 H0
  have C0 : CHr Z own_EL s.vm h0 s.vm h0 := CHr.refl H0
  have hown : s.vm.findClass "com/example/keyhole_limpet/keyholelimpet/OwnerIdentityClientIdOfPinLaw" = some m.cls := hown
  have N0 := Fr.nil n0
  refine own_via (T0.setTop (mkF m 1 #[.val (.int i0), .val (.int i1), .val (.int i2), .val (.int i3), .val (.int i4), .unset, .unset, .unset, .unset, .unset, .unset, .unset, .unset, .unset] [(.int (1 : Int32))])) (fun t k => XS.iconst X0.here hx rfl (hb hby at_0) k) ?_
  refine own_via (T0.setTop (mkF m 3 #[.val (.int i0), .val (.int i1), .val (.int i2), .val (.int i3), .val (.int i4), .unset, .unset, .unset, .unset, .unset, .unset, .unset, .unset, .unset] [(.int i4), (.int (1 : Int32))])) (fun t k => XS.iload X0.here hx rfl (hb hby at_1) rfl k) ?_
  refine own_via (T0.setTop (mkF m 4 #[.val (.int i0), .val (.int i1), .val (.int i2), .val (.int i3), .val (.int i4), .unset, .unset, .unset, .unset, .unset, .unset, .unset, .unset, .unset] [(.int (3 : Int32)), (.int i4), (.int (1 : Int32))])) (fun t k => XS.iconst X0.here hx rfl (hb hby at_3) k) ?_
  refine own_via (T0.setTop (mkF m 5 #[.val (.int i0), .val (.int i1), .val (.int i2), .val (.int i3), .val (.int i4), .unset, .unset, .unset, .unset, .unset, .unset, .unset, .unset, .unset] [(.int (i4 &&& (3 : Int32))), (.int (1 : Int32))])) (fun t k => XS.iand X0.here hx rfl (hb hby at_4) rfl k) ?_
  refine own_via (T0.setTop (mkF m 6 #[.val (.int i0), .val (.int i1), .val (.int i2), .val (.int i3), .val (.int i4), .unset, .unset, .unset, .unset, .unset, .unset, .unset, .unset, .unset] [(.int ((1 : Int32) + (i4 &&& (3 : Int32))))])) (fun t k => XS.iadd X0.here hx rfl (hb hby at_5) rfl k) ?_
  generalize h_nn : ((1 : Int32) + (i4 &&& (3 : Int32))) = nn
  have hnz : ¬ nn = 0 := h_nn ▸ own_nnz _
  refine own_via (T0.setTop (mkF m 8 #[.val (.int i0), .val (.int i1), .val (.int i2), .val (.int i3), .val (.int i4), .val (.int nn), .unset, .unset, .unset, .unset, .unset, .unset, .unset, .unset] [])) (fun t k => XS.istore X0.here hx rfl (hb hby at_6) rfl (l' := #[.val (.int i0), .val (.int i1), .val (.int i2), .val (.int i3), .val (.int i4), .val (.int nn), .unset, .unset, .unset, .unset, .unset, .unset, .unset, .unset]) rfl k) ?_
  refine own_via (T0.setTop (mkF m 10 #[.val (.int i0), .val (.int i1), .val (.int i2), .val (.int i3), .val (.int i4), .val (.int nn), .unset, .unset, .unset, .unset, .unset, .unset, .unset, .unset] [(.int i4)])) (fun t k => XS.iload X0.here hx rfl (hb hby at_8) rfl k) ?_
  refine own_via (T0.setTop (mkF m 11 #[.val (.int i0), .val (.int i1), .val (.int i2), .val (.int i3), .val (.int i4), .val (.int nn), .unset, .unset, .unset, .unset, .unset, .unset, .unset, .unset] [(.int (2 : Int32)), (.int i4)])) (fun t k => XS.iconst X0.here hx rfl (hb hby at_10) k) ?_
  refine own_via (T0.setTop (mkF m 12 #[.val (.int i0), .val (.int i1), .val (.int i2), .val (.int i3), .val (.int i4), .val (.int nn), .unset, .unset, .unset, .unset, .unset, .unset, .unset, .unset] [(.int (((i4).toUInt32 >>> ((2 : Int32) &&& 31).toUInt32).toInt32))])) (fun t k => XS.iushr X0.here hx rfl (hb hby at_11) rfl k) ?_
  refine own_via (T0.setTop (mkF m 13 #[.val (.int i0), .val (.int i1), .val (.int i2), .val (.int i3), .val (.int i4), .val (.int nn), .unset, .unset, .unset, .unset, .unset, .unset, .unset, .unset] [(.int (3 : Int32)), (.int (((i4).toUInt32 >>> ((2 : Int32) &&& 31).toUInt32).toInt32))])) (fun t k => XS.iconst X0.here hx rfl (hb hby at_12) k) ?_
  refine own_via (T0.setTop (mkF m 14 #[.val (.int i0), .val (.int i1), .val (.int i2), .val (.int i3), .val (.int i4), .val (.int nn), .unset, .unset, .unset, .unset, .unset, .unset, .unset, .unset] [(.int ((((i4).toUInt32 >>> ((2 : Int32) &&& 31).toUInt32).toInt32) &&& (3 : Int32)))])) (fun t k => XS.iand X0.here hx rfl (hb hby at_13) rfl k) ?_
  refine own_via (T0.setTop (mkF m 16 #[.val (.int i0), .val (.int i1), .val (.int i2), .val (.int i3), .val (.int i4), .val (.int nn), .unset, .unset, .unset, .unset, .unset, .unset, .unset, .unset] [(.int nn), (.int ((((i4).toUInt32 >>> ((2 : Int32) &&& 31).toUInt32).toInt32) &&& (3 : Int32)))])) (fun t k => XS.iload X0.here hx rfl (hb hby at_14) rfl k) ?_
  refine own_via (T0.setTop (mkF m 17 #[.val (.int i0), .val (.int i1), .val (.int i2), .val (.int i3), .val (.int i4), .val (.int nn), .unset, .unset, .unset, .unset, .unset, .unset, .unset, .unset] [(.int (((((i4).toUInt32 >>> ((2 : Int32) &&& 31).toUInt32).toInt32) &&& (3 : Int32)) % nn))])) (fun t k => iremM X0 hx rfl (hb hby at_16) rfl hnz k) ?_
  generalize h_pp : (((((i4).toUInt32 >>> ((2 : Int32) &&& 31).toUInt32).toInt32) &&& (3 : Int32)) % nn) = pp
  have hnp : own_np nn pp := by rw [← h_pp, ← h_nn]; exact own_npof _ _
  refine own_via (T0.setTop (mkF m 19 #[.val (.int i0), .val (.int i1), .val (.int i2), .val (.int i3), .val (.int i4), .val (.int nn), .val (.int pp), .unset, .unset, .unset, .unset, .unset, .unset, .unset] [])) (fun t k => XS.istore X0.here hx rfl (hb hby at_17) rfl (l' := #[.val (.int i0), .val (.int i1), .val (.int i2), .val (.int i3), .val (.int i4), .val (.int nn), .val (.int pp), .unset, .unset, .unset, .unset, .unset, .unset, .unset]) rfl k) ?_
  refine own_via (T0.setTop (mkF m 20 #[.val (.int i0), .val (.int i1), .val (.int i2), .val (.int i3), .val (.int i4), .val (.int nn), .val (.int pp), .unset, .unset, .unset, .unset, .unset, .unset, .unset] [(.int i0)])) (fun t k => XS.iloadN X0.here hx rfl (hb hby at_19) rfl k) ?_
  obtain ⟨v1, T1, h1, L1, X1, e1, q1, st1⟩ := own_cS X0 hx hZ hown (hw _ (List.mem_of_getElem? (i := 0) rfl)) (hw _ (List.mem_of_getElem? (i := 1) rfl)) (hw _ (List.mem_of_getElem? (i := 2) rfl)) (hw _ (List.mem_of_getElem? (i := 3) rfl)) (by decide) (W := 0) (own_bk (rm_ch l Z a0 hw i0 h0 n0 (by omega)) hZ (hw _ (List.mem_of_getElem? (i := 3) rfl)) (hw _ (List.mem_of_getElem? (i := 2) rfl)) (by decide) (by decide)) e0 (Ls := #[.val (.int i0), .val (.int i1), .val (.int i2), .val (.int i3), .val (.int i4), .val (.int nn), .val (.int pp), .unset, .unset, .unset, .unset, .unset, .unset, .unset]) (by rw [hml]; rfl) (argsL := [(.int i0)]) (rest := []) rfl (lenOf own_pd55318145 rfl) rfl (Nat.le_of_eq rfl) (hb hby at_20) (by decide) (by decide)
  obtain ⟨yc_1, rfl, Nq1, eq1, m1_0⟩ := q1
  have N1 := Fr.app N0 Nq1
  replace e1 := e1.trans eq1
  refine own_via (T1.setTop (mkF m 23 #[.val (.int i0), .val (.int i1), .val (.int i2), .val (.int i3), .val (.int i4), .val (.int nn), .val (.int pp), .unset, .unset, .unset, .unset, .unset, .unset, .unset] [(.int yc_1)])) (st1) ?_
  refine own_via (T1.setTop (mkF m 25 #[.val (.int i0), .val (.int i1), .val (.int i2), .val (.int i3), .val (.int i4), .val (.int nn), .val (.int pp), .val (.int yc_1), .unset, .unset, .unset, .unset, .unset, .unset] [])) (fun t k => XS.istore X1.here hx rfl (hb hby at_23) rfl (l' := #[.val (.int i0), .val (.int i1), .val (.int i2), .val (.int i3), .val (.int i4), .val (.int nn), .val (.int pp), .val (.int yc_1), .unset, .unset, .unset, .unset, .unset, .unset]) rfl k) ?_
  refine own_via (T1.setTop (mkF m 26 #[.val (.int i0), .val (.int i1), .val (.int i2), .val (.int i3), .val (.int i4), .val (.int nn), .val (.int pp), .val (.int yc_1), .unset, .unset, .unset, .unset, .unset, .unset] [(.int i1)])) (fun t k => XS.iloadN X1.here hx rfl (hb hby at_25) rfl k) ?_
  obtain ⟨v2, T2, h2, L2, X2, e2, q2, st2⟩ := own_cS X1 hx hZ hown (hw _ (List.mem_of_getElem? (i := 0) rfl)) (hw _ (List.mem_of_getElem? (i := 1) rfl)) (hw _ (List.mem_of_getElem? (i := 2) rfl)) (hw _ (List.mem_of_getElem? (i := 3) rfl)) (by decide) (W := 0) (own_bk (rm_ch l Z a0 hw i1 h0 n0 (by omega)) hZ (hw _ (List.mem_of_getElem? (i := 3) rfl)) (hw _ (List.mem_of_getElem? (i := 2) rfl)) (by decide) (by decide)) e1 (Ls := #[.val (.int i0), .val (.int i1), .val (.int i2), .val (.int i3), .val (.int i4), .val (.int nn), .val (.int pp), .val (.int yc_1), .unset, .unset, .unset, .unset, .unset, .unset]) (by rw [hml]; rfl) (argsL := [(.int i1)]) (rest := []) rfl (lenOf own_pd55318145 rfl) rfl (Nat.le_of_eq rfl) (hb hby at_26) (by decide) (by decide)
  obtain ⟨yc_2, rfl, Nq2, eq2, m2_0⟩ := q2
  have N2 := Fr.app N1 Nq2
  replace e2 := e2.trans eq2
  refine own_via (T2.setTop (mkF m 29 #[.val (.int i0), .val (.int i1), .val (.int i2), .val (.int i3), .val (.int i4), .val (.int nn), .val (.int pp), .val (.int yc_1), .unset, .unset, .unset, .unset, .unset, .unset] [(.int yc_2)])) (st2) ?_
  refine own_via (T2.setTop (mkF m 31 #[.val (.int i0), .val (.int i1), .val (.int i2), .val (.int i3), .val (.int i4), .val (.int nn), .val (.int pp), .val (.int yc_1), .val (.int yc_2), .unset, .unset, .unset, .unset, .unset] [])) (fun t k => XS.istore X2.here hx rfl (hb hby at_29) rfl (l' := #[.val (.int i0), .val (.int i1), .val (.int i2), .val (.int i3), .val (.int i4), .val (.int nn), .val (.int pp), .val (.int yc_1), .val (.int yc_2), .unset, .unset, .unset, .unset, .unset]) rfl k) ?_
  refine own_via (T2.setTop (mkF m 32 #[.val (.int i0), .val (.int i1), .val (.int i2), .val (.int i3), .val (.int i4), .val (.int nn), .val (.int pp), .val (.int yc_1), .val (.int yc_2), .unset, .unset, .unset, .unset, .unset] [(.int i2)])) (fun t k => XS.iloadN X2.here hx rfl (hb hby at_31) rfl k) ?_
  obtain ⟨v3, T3, h3, L3, X3, e3, q3, st3⟩ := own_cS X2 hx hZ hown (hw _ (List.mem_of_getElem? (i := 0) rfl)) (hw _ (List.mem_of_getElem? (i := 1) rfl)) (hw _ (List.mem_of_getElem? (i := 2) rfl)) (hw _ (List.mem_of_getElem? (i := 3) rfl)) (by decide) (W := 0) (own_bk (rm_ch l Z a0 hw i2 h0 n0 (by omega)) hZ (hw _ (List.mem_of_getElem? (i := 3) rfl)) (hw _ (List.mem_of_getElem? (i := 2) rfl)) (by decide) (by decide)) e2 (Ls := #[.val (.int i0), .val (.int i1), .val (.int i2), .val (.int i3), .val (.int i4), .val (.int nn), .val (.int pp), .val (.int yc_1), .val (.int yc_2), .unset, .unset, .unset, .unset, .unset]) (by rw [hml]; rfl) (argsL := [(.int i2)]) (rest := []) rfl (lenOf own_pd55318145 rfl) rfl (Nat.le_of_eq rfl) (hb hby at_32) (by decide) (by decide)
  obtain ⟨yc_3, rfl, Nq3, eq3, m3_0⟩ := q3
  have N3 := Fr.app N2 Nq3
  replace e3 := e3.trans eq3
  refine own_via (T3.setTop (mkF m 35 #[.val (.int i0), .val (.int i1), .val (.int i2), .val (.int i3), .val (.int i4), .val (.int nn), .val (.int pp), .val (.int yc_1), .val (.int yc_2), .unset, .unset, .unset, .unset, .unset] [(.int yc_3)])) (st3) ?_
  refine own_via (T3.setTop (mkF m 37 #[.val (.int i0), .val (.int i1), .val (.int i2), .val (.int i3), .val (.int i4), .val (.int nn), .val (.int pp), .val (.int yc_1), .val (.int yc_2), .val (.int yc_3), .unset, .unset, .unset, .unset] [])) (fun t k => XS.istore X3.here hx rfl (hb hby at_35) rfl (l' := #[.val (.int i0), .val (.int i1), .val (.int i2), .val (.int i3), .val (.int i4), .val (.int nn), .val (.int pp), .val (.int yc_1), .val (.int yc_2), .val (.int yc_3), .unset, .unset, .unset, .unset]) rfl k) ?_
  refine own_via (T3.setTop (mkF m 38 #[.val (.int i0), .val (.int i1), .val (.int i2), .val (.int i3), .val (.int i4), .val (.int nn), .val (.int pp), .val (.int yc_1), .val (.int yc_2), .val (.int yc_3), .unset, .unset, .unset, .unset] [(.int i3)])) (fun t k => XS.iloadN X3.here hx rfl (hb hby at_37) rfl k) ?_
  obtain ⟨v4, T4, h4, L4, X4, e4, q4, st4⟩ := own_cS X3 hx hZ hown (hw _ (List.mem_of_getElem? (i := 0) rfl)) (hw _ (List.mem_of_getElem? (i := 1) rfl)) (hw _ (List.mem_of_getElem? (i := 2) rfl)) (hw _ (List.mem_of_getElem? (i := 3) rfl)) (by decide) (W := 0) (own_bk (rm_ch l Z a0 hw i3 h0 n0 (by omega)) hZ (hw _ (List.mem_of_getElem? (i := 3) rfl)) (hw _ (List.mem_of_getElem? (i := 2) rfl)) (by decide) (by decide)) e3 (Ls := #[.val (.int i0), .val (.int i1), .val (.int i2), .val (.int i3), .val (.int i4), .val (.int nn), .val (.int pp), .val (.int yc_1), .val (.int yc_2), .val (.int yc_3), .unset, .unset, .unset, .unset]) (by rw [hml]; rfl) (argsL := [(.int i3)]) (rest := []) rfl (lenOf own_pd55318145 rfl) rfl (Nat.le_of_eq rfl) (hb hby at_38) (by decide) (by decide)
  obtain ⟨yc_4, rfl, Nq4, eq4, m4_0⟩ := q4
  have N4 := Fr.app N3 Nq4
  replace e4 := e4.trans eq4
  refine own_via (T4.setTop (mkF m 41 #[.val (.int i0), .val (.int i1), .val (.int i2), .val (.int i3), .val (.int i4), .val (.int nn), .val (.int pp), .val (.int yc_1), .val (.int yc_2), .val (.int yc_3), .unset, .unset, .unset, .unset] [(.int yc_4)])) (st4) ?_
  refine own_via (T4.setTop (mkF m 43 #[.val (.int i0), .val (.int i1), .val (.int i2), .val (.int i3), .val (.int i4), .val (.int nn), .val (.int pp), .val (.int yc_1), .val (.int yc_2), .val (.int yc_3), .val (.int yc_4), .unset, .unset, .unset] [])) (fun t k => XS.istore X4.here hx rfl (hb hby at_41) rfl (l' := #[.val (.int i0), .val (.int i1), .val (.int i2), .val (.int i3), .val (.int i4), .val (.int nn), .val (.int pp), .val (.int yc_1), .val (.int yc_2), .val (.int yc_3), .val (.int yc_4), .unset, .unset, .unset]) rfl k) ?_
  refine own_via (T4.setTop (mkF m 45 #[.val (.int i0), .val (.int i1), .val (.int i2), .val (.int i3), .val (.int i4), .val (.int nn), .val (.int pp), .val (.int yc_1), .val (.int yc_2), .val (.int yc_3), .val (.int yc_4), .unset, .unset, .unset] [(.int pp)])) (fun t k => XS.iload X4.here hx rfl (hb hby at_43) rfl k) ?_
  have J85 : ∀ (z0 : Int32) (z1 : Int32) (z2 : Int32) (z3 : Int32), (¬ z0 < 0 ∧ ¬ (255 : Int32) < z0) → (¬ z1 < 0 ∧ ¬ (255 : Int32) < z1) → (¬ z2 < 0 ∧ ¬ (255 : Int32) < z2) → (¬ z3 < 0 ∧ ¬ (255 : Int32) < z3) → (own_has nn z0 z1 z2 z3) → own_Ends p.tables e below (own_PostH Z own_EL s h0 (Q_rm_law Z i0 i1 i2 i3 i4 G1 fm h0 n0) room_1.cells room_1.slots) (T4.setTop (mkF m 85 #[.val (.int i0), .val (.int i1), .val (.int i2), .val (.int i3), .val (.int i4), .val (.int nn), .val (.int pp), .val (.int z0), .val (.int z1), .val (.int z2), .val (.int z3), .unset, .unset, .unset] [])) := by
    intro z0 z1 z2 z3 r0 r1 r2 r3 hcol
    by_cases hn1 : nn = 1
    · have hn := hn1
      subst hn
      refine own_via (T4.setTop (mkF m 87 #[.val (.int i0), .val (.int i1), .val (.int i2), .val (.int i3), .val (.int i4), .val (.int (1 : Int32)), .val (.int pp), .val (.int z0), .val (.int z1), .val (.int z2), .val (.int z3), .unset, .unset, .unset] [(.int (1 : Int32))])) (fun t k => XS.iload X4.here hx rfl (hb hby at_85) rfl k) ?_
      refine own_via (T4.setTop (mkF m 88 #[.val (.int i0), .val (.int i1), .val (.int i2), .val (.int i3), .val (.int i4), .val (.int (1 : Int32)), .val (.int pp), .val (.int z0), .val (.int z1), .val (.int z2), .val (.int z3), .unset, .unset, .unset] [(.int (1 : Int32)), (.int (1 : Int32))])) (fun t k => XS.iconst X4.here hx rfl (hb hby at_87) k) ?_
      refine own_via (T4.setTop (mkF m 91 #[.val (.int i0), .val (.int i1), .val (.int i2), .val (.int i3), .val (.int i4), .val (.int (1 : Int32)), .val (.int pp), .val (.int z0), .val (.int z1), .val (.int z2), .val (.int z3), .unset, .unset, .unset] [])) (fun t k => XS.icmpNo X4.here hx rfl (hb hby at_88) rfl (by decide) k) ?_
      obtain ⟨T5, h5, X5, e5, E5, A5, D5, U5, st5⟩ := newO X4 hx hZ hown (hw _ (List.mem_of_getElem? (i := 4) rfl)) (hw _ (List.mem_of_getElem? (i := 5) rfl)) (hw _ (List.mem_of_getElem? (i := 6) rfl)) e4 (g := (mkF m 91 #[.val (.int i0), .val (.int i1), .val (.int i2), .val (.int i3), .val (.int i4), .val (.int (1 : Int32)), .val (.int pp), .val (.int z0), .val (.int z1), .val (.int z2), .val (.int z3), .unset, .unset, .unset] [])) rfl (hb hby at_91) (by decide) (by decide)
      obtain ⟨o5, g5⟩ : ∃ z, z = h0.size := ⟨_, rfl⟩
      rw [← g5] at A5 D5 U5 st5
      have sz_h5 : h0.size ≤ h5.size := E5.1
      have B_h5 : CHr Z own_EL s.vm h0 s.vm h5 := CHr.ext E5 C0.1
      have C_h5 : CHr Z own_EL s.vm h0 s.vm h5 := C0.trans B_h5
      have sf_o5_h5 : Safe Z own_EL s.vm h5 o5 := Safe.ext E5 C0.1 (Safe.new (Nat.le_of_eq g5.symm))
      have lt_o5 : @LT.lt Nat _ o5 h5.size := A5.lt
      refine own_via (T5.setTop (mkF m 94 #[.val (.int i0), .val (.int i1), .val (.int i2), .val (.int i3), .val (.int i4), .val (.int (1 : Int32)), .val (.int pp), .val (.int z0), .val (.int z1), .val (.int z2), .val (.int z3), .unset, .unset, .unset] [(.ref o5)])) (st5) ?_
      refine own_via (T5.setTop (mkF m 95 #[.val (.int i0), .val (.int i1), .val (.int i2), .val (.int i3), .val (.int i4), .val (.int (1 : Int32)), .val (.int pp), .val (.int z0), .val (.int z1), .val (.int z2), .val (.int z3), .unset, .unset, .unset] [(.ref o5), (.ref o5)])) (fun t k => XS.dup X5.here hx rfl (hb hby at_94) rfl rfl k) ?_
      refine own_via (T5.setTop (mkF m 96 #[.val (.int i0), .val (.int i1), .val (.int i2), .val (.int i3), .val (.int i4), .val (.int (1 : Int32)), .val (.int pp), .val (.int z0), .val (.int z1), .val (.int z2), .val (.int z3), .unset, .unset, .unset] [(.int (1 : Int32)), (.ref o5), (.ref o5)])) (fun t k => XS.iconst X5.here hx rfl (hb hby at_95) k) ?_
      obtain ⟨T6, h6, k6, X6, e6, E6, A6, st6⟩ := newP X5 hx hZ (hw _ (List.mem_of_getElem? (i := 7) rfl)) e5 (g := (mkF m 96 #[.val (.int i0), .val (.int i1), .val (.int i2), .val (.int i3), .val (.int i4), .val (.int (1 : Int32)), .val (.int pp), .val (.int z0), .val (.int z1), .val (.int z2), .val (.int z3), .unset, .unset, .unset] [(.int (1 : Int32)), (.ref o5), (.ref o5)])) rfl (hb hby at_96) rfl (by decide) (cap := 1) (by decide) (by decide) (by decide) (by decide)
      obtain ⟨o6, g6⟩ : ∃ z, z = h5.size := ⟨_, rfl⟩
      rw [← g6] at A6 st6
      have sz_h6 : h5.size ≤ h6.size := E6.1
      have B_h6 : CHr Z own_EL s.vm h5 s.vm h6 := CHr.ext E6 C_h5.1
      have C_h6 : CHr Z own_EL s.vm h0 s.vm h6 := C_h5.trans B_h6
      have sf_o5_h6 : Safe Z own_EL s.vm h6 o5 := B_h6.safe (show @LT.lt Nat _ _ _ by omega) sf_o5_h5
      have sf_o6_h6 : Safe Z own_EL s.vm h6 o6 := Safe.ext E6 C_h5.1 (Safe.new (Nat.le_of_eq g6.symm))
      have V6 : Arv Z h6 o6 k6 .char (1 : Int32) [] (.int (0 : Int32)) := Arv.new A6 (by decide)
      have lt_o6 : @LT.lt Nat _ o6 h6.size := V6.lt
      refine own_via (T6.setTop (mkF m 98 #[.val (.int i0), .val (.int i1), .val (.int i2), .val (.int i3), .val (.int i4), .val (.int (1 : Int32)), .val (.int pp), .val (.int z0), .val (.int z1), .val (.int z2), .val (.int z3), .unset, .unset, .unset] [(.ref o6), (.ref o5), (.ref o5)])) (st6) ?_
      refine own_via (T6.setTop (mkF m 99 #[.val (.int i0), .val (.int i1), .val (.int i2), .val (.int i3), .val (.int i4), .val (.int (1 : Int32)), .val (.int pp), .val (.int z0), .val (.int z1), .val (.int z2), .val (.int z3), .unset, .unset, .unset] [(.ref o6), (.ref o6), (.ref o5), (.ref o5)])) (fun t k => XS.dup X6.here hx rfl (hb hby at_98) rfl rfl k) ?_
      refine own_via (T6.setTop (mkF m 100 #[.val (.int i0), .val (.int i1), .val (.int i2), .val (.int i3), .val (.int i4), .val (.int (1 : Int32)), .val (.int pp), .val (.int z0), .val (.int z1), .val (.int z2), .val (.int z3), .unset, .unset, .unset] [(.int (0 : Int32)), (.ref o6), (.ref o6), (.ref o5), (.ref o5)])) (fun t k => XS.iconst X6.here hx rfl (hb hby at_99) k) ?_
      refine own_via (T6.setTop (mkF m 102 #[.val (.int i0), .val (.int i1), .val (.int i2), .val (.int i3), .val (.int i4), .val (.int (1 : Int32)), .val (.int pp), .val (.int z0), .val (.int z1), .val (.int z2), .val (.int z3), .unset, .unset, .unset] [(.int z0), (.int (0 : Int32)), (.ref o6), (.ref o6), (.ref o5), (.ref o5)])) (fun t k => XS.iload X6.here hx rfl (hb hby at_100) rfl k) ?_
      have V7 : Arv Z h6 o6 k6 .char (1 : Int32) [(.int (0 : Int32))] (.int (0 : Int32)) := V6.pad (pad_rep [] (.int (0 : Int32)) 1)
      obtain ⟨c8, A8, q8, S8, M8, H8, U8⟩ := id V7
      obtain ⟨T9, h9, X9, e9, W9, st9⟩ := stC X6 hx hZ e6 A8 (j := (0 : Int32)) (inb_of S8 ⟨(by decide), (by decide)⟩) (g := (mkF m 102 #[.val (.int i0), .val (.int i1), .val (.int i2), .val (.int i3), .val (.int i4), .val (.int (1 : Int32)), .val (.int pp), .val (.int z0), .val (.int z1), .val (.int z2), .val (.int z3), .unset, .unset, .unset] [(.int z0), (.int (0 : Int32)), (.ref o6), (.ref o6), (.ref o5), (.ref o5)])) rfl rfl (hb hby at_102)
      have N9 := Fr.snoc X9 N4 (show @LE.le Nat _ _ _ by omega)
      have sz_h9 : h9.size = h6.size := Wr.size W9
      have B_h9 : CHr Z own_EL s.vm h6 s.vm h9 := CHr.wr W9 sf_o6_h6 C_h6.1
      have C_h9 : CHr Z own_EL s.vm h0 s.vm h9 := C_h6.trans B_h9
      have sf_o5_h9 : Safe Z own_EL s.vm h9 o5 := B_h9.safe (show @LT.lt Nat _ _ _ by omega) sf_o5_h6
      have sf_o6_h9 : Safe Z own_EL s.vm h9 o6 := B_h9.safe (show @LT.lt Nat _ _ _ by omega) sf_o6_h6
      have f10 : Arv Z h9 o6 k6 .char (1 : Int32) [(.int (nar .char z0))] (.int (0 : Int32)) := Arv.set A8 q8 S8 M8 H8 U8 (fits_nar_char _) W9 0 rfl (Nat.le_of_ble_eq_true rfl)
      rw [own_narc r0] at f10
      refine own_via (T9.setTop (mkF m 103 #[.val (.int i0), .val (.int i1), .val (.int i2), .val (.int i3), .val (.int i4), .val (.int (1 : Int32)), .val (.int pp), .val (.int z0), .val (.int z1), .val (.int z2), .val (.int z3), .unset, .unset, .unset] [(.ref o6), (.ref o5), (.ref o5)])) (st9) ?_
      have hp : ∀ c ∈ ([z0] : List Int32), ¬ c < 0 ∧ ¬ (255 : Int32) < c := by
        intro c hc
        simp only [List.mem_cons, List.not_mem_nil, or_false] at hc
        rcases hc with rfl
        · exact r0
      have f11 : Exa Z h9 o5 "java/lang/String" := ((A5.ext E6).wr W9)
      have f12 : Fld Z h9 o5 "java/lang/String" "value" "[B" .null := (((D5 (Or.inr (hw _ (List.mem_of_getElem? (i := 33) rfl))) (ty := (.array .byte)) (by decide)).ext E6).other W9 (Or.inl (show @Ne Nat _ _ by omega)))
      have f13 : Fld Z h9 o5 "java/lang/String" "coder" "B" (.int (0 : Int32)) := (((D5 (Or.inr (hw _ (List.mem_of_getElem? (i := 31) rfl))) (ty := .byte) (by decide)).ext E6).other W9 (Or.inl (show @Ne Nat _ _ by omega)))
      have f14 : Old Z n0 h9 := (((pf2.ext E5).ext E6).wr W9 (show @LE.le Nat _ _ _ by omega))
      obtain ⟨v15, T15, h15, L15, X15, e15, q15, st15⟩ := own_cI X9 hx hZ hown (hw _ (List.mem_of_getElem? (i := 8) rfl)) (hw _ (List.mem_of_getElem? (i := 9) rfl)) (hw _ (List.mem_of_getElem? (i := 10) rfl)) rfl (by decide) (W := 1) (StrChars.Road.backV hZ (own_hws hw) (kI := 4) (hw _ (List.mem_of_getElem? (i := 5) rfl)) (cs := ([z0] : List Int32)) (bs := (([z0] : List Int32)).map (fun c => c.toInt8.toInt32)) (n := 1) (n0 := n0) (by omega) (by omega) f11 f12 f13 f10 (pf0.ext f14.2) hG1 rfl rfl (by decide) (by decide) hp rfl (by decide) (by decide)) e9 (a := o5) (Ls := #[.val (.int i0), .val (.int i1), .val (.int i2), .val (.int i3), .val (.int i4), .val (.int (1 : Int32)), .val (.int pp), .val (.int z0), .val (.int z1), .val (.int z2), .val (.int z3), .unset, .unset, .unset]) (by rw [hml]; rfl) (argsL := [(.ref o6)]) (rest := [(.ref o5)]) rfl (lenOf own_pd95987610 rfl) rfl (Nat.le_of_eq rfl) (hb hby at_103) (by decide) (by decide)
      obtain ⟨rfl, Nq15, Kq15, fE15, fC15, t15, kb15, u15, w15, n15, fV15, fA15⟩ := q15
      have N15 := Fr.app N9 Nq15
      have sz_h15 : h9.size ≤ h15.size := Kq15.1
      have B_h15 : CHr Z own_EL s.vm h9 s.vm h15 := CHr.keep Kq15 (sfS sf_o5_h9 sf0) C_h9.1
      have C_h15 : CHr Z own_EL s.vm h0 s.vm h15 := C_h9.trans B_h15
      have sf_o5_h15 : Safe Z own_EL s.vm h15 o5 := B_h15.safe (show @LT.lt Nat _ _ _ by omega) sf_o5_h9
      have sf_o6_h15 : Safe Z own_EL s.vm h15 o6 := B_h15.safe (show @LT.lt Nat _ _ _ by omega) sf_o6_h9
      have lt_t15 : @LT.lt Nat _ t15 h15.size := fA15.lt
      refine own_via (T15.setTop (mkF m 106 #[.val (.int i0), .val (.int i1), .val (.int i2), .val (.int i3), .val (.int i4), .val (.int (1 : Int32)), .val (.int pp), .val (.int z0), .val (.int z1), .val (.int z2), .val (.int z3), .unset, .unset, .unset] [(.ref o5)])) (st15) ?_
      refine own_via (T15.setTop (mkF m 108 #[.val (.int i0), .val (.int i1), .val (.int i2), .val (.int i3), .val (.int i4), .val (.int (1 : Int32)), .val (.int pp), .val (.int z0), .val (.int z1), .val (.int z2), .val (.int z3), .val (.ref o5), .unset, .unset] [])) (fun t k => XS.astore X15.here hx rfl (hb hby at_106) rfl rfl (l' := #[.val (.int i0), .val (.int i1), .val (.int i2), .val (.int i3), .val (.int i4), .val (.int (1 : Int32)), .val (.int pp), .val (.int z0), .val (.int z1), .val (.int z2), .val (.int z3), .val (.ref o5), .unset, .unset]) rfl k) ?_
      refine own_via (T15.setTop (mkF m 210 #[.val (.int i0), .val (.int i1), .val (.int i2), .val (.int i3), .val (.int i4), .val (.int (1 : Int32)), .val (.int pp), .val (.int z0), .val (.int z1), .val (.int z2), .val (.int z3), .val (.ref o5), .unset, .unset] [])) (fun t k => XS.goto X15.here hx rfl (pc0 := 108) (pc' := 210) rfl (hb hby at_108) (by decide) (by decide) k) ?_
      refine own_via (T15.setTop (mkF m 211 #[.val (.int i0), .val (.int i1), .val (.int i2), .val (.int i3), .val (.int i4), .val (.int (1 : Int32)), .val (.int pp), .val (.int z0), .val (.int z1), .val (.int z2), .val (.int z3), .val (.ref o5), .unset, .unset] [(.int (-1 : Int32))])) (fun t k => XS.iconst X15.here hx rfl (hb hby at_210) k) ?_
      refine own_via (T15.setTop (mkF m 213 #[.val (.int i0), .val (.int i1), .val (.int i2), .val (.int i3), .val (.int i4), .val (.int (1 : Int32)), .val (.int pp), .val (.int z0), .val (.int z1), .val (.int z2), .val (.int z3), .val (.ref o5), .val (.int (-1 : Int32)), .unset] [])) (fun t k => XS.istore X15.here hx rfl (hb hby at_211) rfl (l' := #[.val (.int i0), .val (.int i1), .val (.int i2), .val (.int i3), .val (.int i4), .val (.int (1 : Int32)), .val (.int pp), .val (.int z0), .val (.int z1), .val (.int z2), .val (.int z3), .val (.ref o5), .val (.int (-1 : Int32)), .unset]) rfl k) ?_
      refine own_via (T15.setTop (mkF m 215 #[.val (.int i0), .val (.int i1), .val (.int i2), .val (.int i3), .val (.int i4), .val (.int (1 : Int32)), .val (.int pp), .val (.int z0), .val (.int z1), .val (.int z2), .val (.int z3), .val (.ref o5), .val (.int (-1 : Int32)), .unset] [(.int z0)])) (fun t k => XS.iload X15.here hx rfl (hb hby at_213) rfl k) ?_
      refine own_via (T15.setTop (mkF m 217 #[.val (.int i0), .val (.int i1), .val (.int i2), .val (.int i3), .val (.int i4), .val (.int (1 : Int32)), .val (.int pp), .val (.int z0), .val (.int z1), .val (.int z2), .val (.int z3), .val (.ref o5), .val (.int (-1 : Int32)), .unset] [(.int (58 : Int32)), (.int z0)])) (fun t k => XS.bipush X15.here hx rfl (hb hby at_215) k) ?_
      have J0 :  (z0 = 58) → own_Ends p.tables e below (own_PostH Z own_EL s h0 (Q_rm_law Z i0 i1 i2 i3 i4 G1 fm h0 n0) room_1.cells room_1.slots) (T15.setTop (mkF m 271 #[.val (.int i0), .val (.int i1), .val (.int i2), .val (.int i3), .val (.int i4), .val (.int (1 : Int32)), .val (.int pp), .val (.int z0), .val (.int z1), .val (.int z2), .val (.int z3), .val (.ref o5), .val (.int (0 : Int32)), .unset] [])) := by
        intro q0
        have hli : own_li ([z0] : List Int32) ([z0] : List Int32).length = Int32.ofNat 0 := by
          show (if z0 = 58 then Int32.ofNat 0 else -1) = _
          rw [if_pos q0]
        refine own_via (T15.setTop (mkF m 273 #[.val (.int i0), .val (.int i1), .val (.int i2), .val (.int i3), .val (.int i4), .val (.int (1 : Int32)), .val (.int pp), .val (.int z0), .val (.int z1), .val (.int z2), .val (.int z3), .val (.ref o5), .val (.int (0 : Int32)), .unset] [(.ref o5)])) (fun t k => XS.aload X15.here hx rfl (hb hby at_271) rfl rfl k) ?_
        have f16 : Old Z n0 h15 := (f14.keep Kq15 (allS (show @LE.le Nat _ _ _ by omega) all0))
        obtain ⟨v17, T17, h17, L17, X17, e17, q17, hS17, hZ17, hown17, C17, st17⟩ := own_cSH X15 hx hZ hown (hw _ (List.mem_of_getElem? (i := 34) rfl)) (hw _ (List.mem_of_getElem? (i := 35) rfl)) (hw _ (List.mem_of_getElem? (i := 36) rfl)) (hw _ (List.mem_of_getElem? (i := 37) rfl)) (by decide) (W := 0) (own_bkH (rm_coZ l Z a0 hw o5 t15 kb15 ([z0] : List Int32) G1 fm h15 n0 (by omega) fE15 fV15 fC15 fA15 pf0 pf1 f16 (Nat.le_of_ble_eq_true rfl) hp hG1 rfm hli (Nat.le_of_ble_eq_true rfl)) hZ (hw _ (List.mem_of_getElem? (i := 37) rfl)) (hw _ (List.mem_of_getElem? (i := 36) rfl)) (by decide) (by decide) (own_EW hw) C_h15.1) e15 hS0 (by omega) (Ls := #[.val (.int i0), .val (.int i1), .val (.int i2), .val (.int i3), .val (.int i4), .val (.int (1 : Int32)), .val (.int pp), .val (.int z0), .val (.int z1), .val (.int z2), .val (.int z3), .val (.ref o5), .val (.int (0 : Int32)), .unset]) (by rw [hml]; rfl) (argsL := [(.ref o5)]) (rest := []) rfl (lenOf own_pd51720142 rfl) rfl (Nat.le_of_eq rfl) (hb hby at_273) (by decide) (by decide)
        have hZ17 : Z.Warmed39 (s.setVm T17.vm).vm := hZ17
        obtain ⟨b_17, tb_17, kc_17, rfl, Nq17, Kq17, f18, f19, f20, f21⟩ := q17
        have N17 := Fr.app N15 Nq17
        have sz_h17 : h15.size ≤ h17.size := Kq17.1
        have C_h17 : CHr Z own_EL s.vm h0 T17.vm h17 := C_h15.trans C17
        have sf_o5_h17 : Safe Z own_EL T17.vm h17 o5 := C17.safe (show @LT.lt Nat _ _ _ by omega) sf_o5_h15
        have sf_o6_h17 : Safe Z own_EL T17.vm h17 o6 := C17.safe (show @LT.lt Nat _ _ _ by omega) sf_o6_h15
        have lt_b_17 : @LT.lt Nat _ b_17 h17.size := f18.lt
        have lt_tb_17 : @LT.lt Nat _ tb_17 h17.size := f21.lt
        refine own_via (T17.setTop (mkF m 276 #[.val (.int i0), .val (.int i1), .val (.int i2), .val (.int i3), .val (.int i4), .val (.int (1 : Int32)), .val (.int pp), .val (.int z0), .val (.int z1), .val (.int z2), .val (.int z3), .val (.ref o5), .val (.int (0 : Int32)), .unset] [(.ref b_17)])) (st17) ?_
        refine own_via (T17.setTop (mkF m 278 #[.val (.int i0), .val (.int i1), .val (.int i2), .val (.int i3), .val (.int i4), .val (.int (1 : Int32)), .val (.int pp), .val (.int z0), .val (.int z1), .val (.int z2), .val (.int z3), .val (.ref o5), .val (.int (0 : Int32)), .val (.ref b_17)] [])) (fun t k => XS.astore X17.here hx rfl (hb hby at_276) rfl rfl (l' := #[.val (.int i0), .val (.int i1), .val (.int i2), .val (.int i3), .val (.int i4), .val (.int (1 : Int32)), .val (.int pp), .val (.int z0), .val (.int z1), .val (.int z2), .val (.int z3), .val (.ref o5), .val (.int (0 : Int32)), .val (.ref b_17)]) rfl k) ?_
        refine own_via (T17.setTop (mkF m 280 #[.val (.int i0), .val (.int i1), .val (.int i2), .val (.int i3), .val (.int i4), .val (.int (1 : Int32)), .val (.int pp), .val (.int z0), .val (.int z1), .val (.int z2), .val (.int z3), .val (.ref o5), .val (.int (0 : Int32)), .val (.ref b_17)] [(.ref b_17)])) (fun t k => XS.aload X17.here hx rfl (hb hby at_278) rfl rfl k) ?_
        refine own_via (T17.setTop (mkF m 283 #[.val (.int i0), .val (.int i1), .val (.int i2), .val (.int i3), .val (.int i4), .val (.int (1 : Int32)), .val (.int pp), .val (.int z0), .val (.int z1), .val (.int z2), .val (.int z3), .val (.ref o5), .val (.int (0 : Int32)), .val (.ref b_17)] [])) (fun t k => XS.ifnullNo X17.here hx rfl (hb hby at_280) rfl k) ?_
        refine own_via (T17.setTop (mkF m 285 #[.val (.int i0), .val (.int i1), .val (.int i2), .val (.int i3), .val (.int i4), .val (.int (1 : Int32)), .val (.int pp), .val (.int z0), .val (.int z1), .val (.int z2), .val (.int z3), .val (.ref o5), .val (.int (0 : Int32)), .val (.ref b_17)] [(.ref b_17)])) (fun t k => XS.aload X17.here hx rfl (hb hby at_283) rfl rfl k) ?_
        have hcd22 := StrChars.Road.codOf (cs := ([] : List Int32)) (n := (([] : List Int32) : List Int32).length) rfl (fun c hc => ((fun c (hc : c ∈ ([] : List Int32)) => (nomatch hc : ¬ c < 0 ∧ ¬ (255 : Int32) < c)) c hc).2)
        have hbd23 : ∀ c ∈ (([] : List Int32) : List Int32), ¬ c < 0 ∧ ¬ (65535 : Int32) < c := fun c hc => own_up ((fun c (hc : c ∈ ([] : List Int32)) => (nomatch hc : ¬ c < 0 ∧ ¬ (255 : Int32) < c)) c hc)
        have f24 : Old Z n0 h17 := (f16.keep Kq17 all0)
        obtain ⟨v25, T25, h25, L25, X25, e25, q25, st25⟩ := own_cV X17 hx hZ17 (y := (⟨"java/lang/String", "length", "()I"⟩ : MethodName)) (z := (⟨"java/lang/String", "length", "()I"⟩ : MethodName)) hown17 (hw _ (List.mem_of_getElem? (i := 93) rfl)) (hw _ (List.mem_of_getElem? (i := 44) rfl)) (notFace_of_selects (args := #[]) (mvT hZ17 (hw _ (List.mem_of_getElem? (i := 46) rfl)))) (hw _ (List.mem_of_getElem? (i := 46) rfl)) (hw _ (List.mem_of_getElem? (i := 45) rfl)) (by decide) (W := 0) (k := 0) (j := 0) (Q := fun v h' L => v = some (.int (Int32.ofNat (([] : List Int32) : List Int32).length)) ∧ L = [] ∧ h' = h17) (StrChars.Road.lenW (cs := ([] : List Int32)) hZ17 (own_hln hw) (kI := 4) (hw _ (List.mem_of_getElem? (i := 5) rfl)) f18 f19 f20 f21 hcd22 hbd23 (pf0.ext f24.2) hG1 (Nat.le_of_ble_eq_true rfl) (by decide) (by decide)) e17 f18 (Ls := #[.val (.int i0), .val (.int i1), .val (.int i2), .val (.int i3), .val (.int i4), .val (.int (1 : Int32)), .val (.int pp), .val (.int z0), .val (.int z1), .val (.int z2), .val (.int z3), .val (.ref o5), .val (.int (0 : Int32)), .val (.ref b_17)]) (by rw [hml]; rfl) (argsL := []) (rest := []) rfl (lenOf own_pd93735326 rfl) rfl (Nat.le_of_eq rfl) (hb hby at_285) (by decide) (by decide)
        obtain ⟨rfl, rfl, eq25⟩ := q25
        replace e25 := e25.trans eq25
        have N25 := Fr.app N17 (Fr.nil n0)
        refine own_via (T25.setTop (mkF m 288 #[.val (.int i0), .val (.int i1), .val (.int i2), .val (.int i3), .val (.int i4), .val (.int (1 : Int32)), .val (.int pp), .val (.int z0), .val (.int z1), .val (.int z2), .val (.int z3), .val (.ref o5), .val (.int (0 : Int32)), .val (.ref b_17)] [(.int (Int32.ofNat (([] : List Int32) : List Int32).length))])) (st25) ?_
        refine own_via (T25.setTop (mkF m 290 #[.val (.int i0), .val (.int i1), .val (.int i2), .val (.int i3), .val (.int i4), .val (.int (1 : Int32)), .val (.int pp), .val (.int z0), .val (.int z1), .val (.int z2), .val (.int z3), .val (.ref o5), .val (.int (0 : Int32)), .val (.ref b_17)] [(.int (0 : Int32)), (.int (Int32.ofNat (([] : List Int32) : List Int32).length))])) (fun t k => XS.iload X25.here hx rfl (hb hby at_288) rfl k) ?_
        refine own_via (T25.setTop (mkF m 295 #[.val (.int i0), .val (.int i1), .val (.int i2), .val (.int i3), .val (.int i4), .val (.int (1 : Int32)), .val (.int pp), .val (.int z0), .val (.int z1), .val (.int z2), .val (.int z3), .val (.ref o5), .val (.int (0 : Int32)), .val (.ref b_17)] [])) (fun t k => XS.icmpYes X25.here hx rfl (pc0 := 290) (pc' := 295) rfl (hb hby at_290) rfl (XT.ii_eq_t rfl) (by decide) (by decide) k) ?_
        refine own_via (T25.setTop (mkF m 297 #[.val (.int i0), .val (.int i1), .val (.int i2), .val (.int i3), .val (.int i4), .val (.int (1 : Int32)), .val (.int pp), .val (.int z0), .val (.int z1), .val (.int z2), .val (.int z3), .val (.ref o5), .val (.int (0 : Int32)), .val (.ref b_17)] [(.int (0 : Int32))])) (fun t k => XS.iload X25.here hx rfl (hb hby at_295) rfl k) ?_
        refine own_via (T25.setTop (mkF m 313 #[.val (.int i0), .val (.int i1), .val (.int i2), .val (.int i3), .val (.int i4), .val (.int (1 : Int32)), .val (.int pp), .val (.int z0), .val (.int z1), .val (.int z2), .val (.int z3), .val (.ref o5), .val (.int (0 : Int32)), .val (.ref b_17)] [])) (fun t k => XS.ifYes X25.here hx rfl (pc0 := 297) (pc' := 313) rfl (hb hby at_297) rfl (by decide) (by decide) (by decide) k) ?_
        refine own_via (T25.setTop (mkF m 315 #[.val (.int i0), .val (.int i1), .val (.int i2), .val (.int i3), .val (.int i4), .val (.int (1 : Int32)), .val (.int pp), .val (.int z0), .val (.int z1), .val (.int z2), .val (.int z3), .val (.ref o5), .val (.int (0 : Int32)), .val (.ref b_17)] [(.int (0 : Int32))])) (fun t k => XS.iload X25.here hx rfl (hb hby at_313) rfl k) ?_
        refine own_via (T25.setTop (mkF m 316 #[.val (.int i0), .val (.int i1), .val (.int i2), .val (.int i3), .val (.int i4), .val (.int (1 : Int32)), .val (.int pp), .val (.int z0), .val (.int z1), .val (.int z2), .val (.int z3), .val (.ref o5), .val (.int (0 : Int32)), .val (.ref b_17)] [(.int (1 : Int32)), (.int (0 : Int32))])) (fun t k => XS.iconst X25.here hx rfl (hb hby at_315) k) ?_
        refine own_via (T25.setTop (mkF m 332 #[.val (.int i0), .val (.int i1), .val (.int i2), .val (.int i3), .val (.int i4), .val (.int (1 : Int32)), .val (.int pp), .val (.int z0), .val (.int z1), .val (.int z2), .val (.int z3), .val (.ref o5), .val (.int (0 : Int32)), .val (.ref b_17)] [])) (fun t k => XS.icmpYes X25.here hx rfl (pc0 := 316) (pc' := 332) rfl (hb hby at_316) rfl (by decide) (by decide) (by decide) k) ?_
        refine own_via (T25.setTop (mkF m 334 #[.val (.int i0), .val (.int i1), .val (.int i2), .val (.int i3), .val (.int i4), .val (.int (1 : Int32)), .val (.int pp), .val (.int z0), .val (.int z1), .val (.int z2), .val (.int z3), .val (.ref o5), .val (.int (0 : Int32)), .val (.ref b_17)] [(.int (0 : Int32))])) (fun t k => XS.iload X25.here hx rfl (hb hby at_332) rfl k) ?_
        refine own_via (T25.setTop (mkF m 335 #[.val (.int i0), .val (.int i1), .val (.int i2), .val (.int i3), .val (.int i4), .val (.int (1 : Int32)), .val (.int pp), .val (.int z0), .val (.int z1), .val (.int z2), .val (.int z3), .val (.ref o5), .val (.int (0 : Int32)), .val (.ref b_17)] [(.int (2 : Int32)), (.int (0 : Int32))])) (fun t k => XS.iconst X25.here hx rfl (hb hby at_334) k) ?_
        refine own_via (T25.setTop (mkF m 351 #[.val (.int i0), .val (.int i1), .val (.int i2), .val (.int i3), .val (.int i4), .val (.int (1 : Int32)), .val (.int pp), .val (.int z0), .val (.int z1), .val (.int z2), .val (.int z3), .val (.ref o5), .val (.int (0 : Int32)), .val (.ref b_17)] [])) (fun t k => XS.icmpYes X25.here hx rfl (pc0 := 335) (pc' := 351) rfl (hb hby at_335) rfl (by decide) (by decide) (by decide) k) ?_
        refine own_via (T25.setTop (mkF m 352 #[.val (.int i0), .val (.int i1), .val (.int i2), .val (.int i3), .val (.int i4), .val (.int (1 : Int32)), .val (.int pp), .val (.int z0), .val (.int z1), .val (.int z2), .val (.int z3), .val (.ref o5), .val (.int (0 : Int32)), .val (.ref b_17)] [(.int (1 : Int32))])) (fun t k => XS.iconst X25.here hx rfl (hb hby at_351) k) ?_
        exact own_leaveH X25 hlk hZ17 (own_EW hw) hS17 (by omega) e25 C_h17 (v := some (.int (nar .boolean (1 : Int32)))) (fun h => by rw [hret] at h; cases h) (⟨rfl, N25⟩) (by decide) (by decide) (fun fs hr => retN X25 hx (t := .boolean) hret (by simp) (hb hby at_352) hr)
      by_cases q0 : z0 = (58 : Int32)
      · refine own_via (T15.setTop (mkF m 220 #[.val (.int i0), .val (.int i1), .val (.int i2), .val (.int i3), .val (.int i4), .val (.int (1 : Int32)), .val (.int pp), .val (.int z0), .val (.int z1), .val (.int z2), .val (.int z3), .val (.ref o5), .val (.int (-1 : Int32)), .unset] [])) (fun t k => XS.icmpNo X15.here hx rfl (hb hby at_217) rfl (XT.ii_ne_f q0) k) ?_
        refine own_via (T15.setTop (mkF m 221 #[.val (.int i0), .val (.int i1), .val (.int i2), .val (.int i3), .val (.int i4), .val (.int (1 : Int32)), .val (.int pp), .val (.int z0), .val (.int z1), .val (.int z2), .val (.int z3), .val (.ref o5), .val (.int (-1 : Int32)), .unset] [(.int (0 : Int32))])) (fun t k => XS.iconst X15.here hx rfl (hb hby at_220) k) ?_
        refine own_via (T15.setTop (mkF m 223 #[.val (.int i0), .val (.int i1), .val (.int i2), .val (.int i3), .val (.int i4), .val (.int (1 : Int32)), .val (.int pp), .val (.int z0), .val (.int z1), .val (.int z2), .val (.int z3), .val (.ref o5), .val (.int (0 : Int32)), .unset] [])) (fun t k => XS.istore X15.here hx rfl (hb hby at_221) rfl (l' := #[.val (.int i0), .val (.int i1), .val (.int i2), .val (.int i3), .val (.int i4), .val (.int (1 : Int32)), .val (.int pp), .val (.int z0), .val (.int z1), .val (.int z2), .val (.int z3), .val (.ref o5), .val (.int (0 : Int32)), .unset]) rfl k) ?_
        refine own_via (T15.setTop (mkF m 225 #[.val (.int i0), .val (.int i1), .val (.int i2), .val (.int i3), .val (.int i4), .val (.int (1 : Int32)), .val (.int pp), .val (.int z0), .val (.int z1), .val (.int z2), .val (.int z3), .val (.ref o5), .val (.int (0 : Int32)), .unset] [(.int (1 : Int32))])) (fun t k => XS.iload X15.here hx rfl (hb hby at_223) rfl k) ?_
        refine own_via (T15.setTop (mkF m 226 #[.val (.int i0), .val (.int i1), .val (.int i2), .val (.int i3), .val (.int i4), .val (.int (1 : Int32)), .val (.int pp), .val (.int z0), .val (.int z1), .val (.int z2), .val (.int z3), .val (.ref o5), .val (.int (0 : Int32)), .unset] [(.int (1 : Int32)), (.int (1 : Int32))])) (fun t k => XS.iconst X15.here hx rfl (hb hby at_225) k) ?_
        refine own_via (T15.setTop (mkF m 239 #[.val (.int i0), .val (.int i1), .val (.int i2), .val (.int i3), .val (.int i4), .val (.int (1 : Int32)), .val (.int pp), .val (.int z0), .val (.int z1), .val (.int z2), .val (.int z3), .val (.ref o5), .val (.int (0 : Int32)), .unset] [])) (fun t k => XS.icmpYes X15.here hx rfl (pc0 := 226) (pc' := 239) rfl (hb hby at_226) rfl (by decide) (by decide) (by decide) k) ?_
        refine own_via (T15.setTop (mkF m 241 #[.val (.int i0), .val (.int i1), .val (.int i2), .val (.int i3), .val (.int i4), .val (.int (1 : Int32)), .val (.int pp), .val (.int z0), .val (.int z1), .val (.int z2), .val (.int z3), .val (.ref o5), .val (.int (0 : Int32)), .unset] [(.int (1 : Int32))])) (fun t k => XS.iload X15.here hx rfl (hb hby at_239) rfl k) ?_
        refine own_via (T15.setTop (mkF m 242 #[.val (.int i0), .val (.int i1), .val (.int i2), .val (.int i3), .val (.int i4), .val (.int (1 : Int32)), .val (.int pp), .val (.int z0), .val (.int z1), .val (.int z2), .val (.int z3), .val (.ref o5), .val (.int (0 : Int32)), .unset] [(.int (2 : Int32)), (.int (1 : Int32))])) (fun t k => XS.iconst X15.here hx rfl (hb hby at_241) k) ?_
        refine own_via (T15.setTop (mkF m 255 #[.val (.int i0), .val (.int i1), .val (.int i2), .val (.int i3), .val (.int i4), .val (.int (1 : Int32)), .val (.int pp), .val (.int z0), .val (.int z1), .val (.int z2), .val (.int z3), .val (.ref o5), .val (.int (0 : Int32)), .unset] [])) (fun t k => XS.icmpYes X15.here hx rfl (pc0 := 242) (pc' := 255) rfl (hb hby at_242) rfl (by decide) (by decide) (by decide) k) ?_
        refine own_via (T15.setTop (mkF m 257 #[.val (.int i0), .val (.int i1), .val (.int i2), .val (.int i3), .val (.int i4), .val (.int (1 : Int32)), .val (.int pp), .val (.int z0), .val (.int z1), .val (.int z2), .val (.int z3), .val (.ref o5), .val (.int (0 : Int32)), .unset] [(.int (1 : Int32))])) (fun t k => XS.iload X15.here hx rfl (hb hby at_255) rfl k) ?_
        refine own_via (T15.setTop (mkF m 258 #[.val (.int i0), .val (.int i1), .val (.int i2), .val (.int i3), .val (.int i4), .val (.int (1 : Int32)), .val (.int pp), .val (.int z0), .val (.int z1), .val (.int z2), .val (.int z3), .val (.ref o5), .val (.int (0 : Int32)), .unset] [(.int (3 : Int32)), (.int (1 : Int32))])) (fun t k => XS.iconst X15.here hx rfl (hb hby at_257) k) ?_
        refine own_via (T15.setTop (mkF m 271 #[.val (.int i0), .val (.int i1), .val (.int i2), .val (.int i3), .val (.int i4), .val (.int (1 : Int32)), .val (.int pp), .val (.int z0), .val (.int z1), .val (.int z2), .val (.int z3), .val (.ref o5), .val (.int (0 : Int32)), .unset] [])) (fun t k => XS.icmpYes X15.here hx rfl (pc0 := 258) (pc' := 271) rfl (hb hby at_258) rfl (by decide) (by decide) (by decide) k) ?_
        exact J0 q0
      · refine own_via (T15.setTop (mkF m 223 #[.val (.int i0), .val (.int i1), .val (.int i2), .val (.int i3), .val (.int i4), .val (.int (1 : Int32)), .val (.int pp), .val (.int z0), .val (.int z1), .val (.int z2), .val (.int z3), .val (.ref o5), .val (.int (-1 : Int32)), .unset] [])) (fun t k => XS.icmpYes X15.here hx rfl (pc0 := 217) (pc' := 223) rfl (hb hby at_217) rfl (XT.ii_ne_t q0) (by decide) (by decide) k) ?_
        refine own_via (T15.setTop (mkF m 225 #[.val (.int i0), .val (.int i1), .val (.int i2), .val (.int i3), .val (.int i4), .val (.int (1 : Int32)), .val (.int pp), .val (.int z0), .val (.int z1), .val (.int z2), .val (.int z3), .val (.ref o5), .val (.int (-1 : Int32)), .unset] [(.int (1 : Int32))])) (fun t k => XS.iload X15.here hx rfl (hb hby at_223) rfl k) ?_
        refine own_via (T15.setTop (mkF m 226 #[.val (.int i0), .val (.int i1), .val (.int i2), .val (.int i3), .val (.int i4), .val (.int (1 : Int32)), .val (.int pp), .val (.int z0), .val (.int z1), .val (.int z2), .val (.int z3), .val (.ref o5), .val (.int (-1 : Int32)), .unset] [(.int (1 : Int32)), (.int (1 : Int32))])) (fun t k => XS.iconst X15.here hx rfl (hb hby at_225) k) ?_
        refine own_via (T15.setTop (mkF m 239 #[.val (.int i0), .val (.int i1), .val (.int i2), .val (.int i3), .val (.int i4), .val (.int (1 : Int32)), .val (.int pp), .val (.int z0), .val (.int z1), .val (.int z2), .val (.int z3), .val (.ref o5), .val (.int (-1 : Int32)), .unset] [])) (fun t k => XS.icmpYes X15.here hx rfl (pc0 := 226) (pc' := 239) rfl (hb hby at_226) rfl (by decide) (by decide) (by decide) k) ?_
        refine own_via (T15.setTop (mkF m 241 #[.val (.int i0), .val (.int i1), .val (.int i2), .val (.int i3), .val (.int i4), .val (.int (1 : Int32)), .val (.int pp), .val (.int z0), .val (.int z1), .val (.int z2), .val (.int z3), .val (.ref o5), .val (.int (-1 : Int32)), .unset] [(.int (1 : Int32))])) (fun t k => XS.iload X15.here hx rfl (hb hby at_239) rfl k) ?_
        refine own_via (T15.setTop (mkF m 242 #[.val (.int i0), .val (.int i1), .val (.int i2), .val (.int i3), .val (.int i4), .val (.int (1 : Int32)), .val (.int pp), .val (.int z0), .val (.int z1), .val (.int z2), .val (.int z3), .val (.ref o5), .val (.int (-1 : Int32)), .unset] [(.int (2 : Int32)), (.int (1 : Int32))])) (fun t k => XS.iconst X15.here hx rfl (hb hby at_241) k) ?_
        refine own_via (T15.setTop (mkF m 255 #[.val (.int i0), .val (.int i1), .val (.int i2), .val (.int i3), .val (.int i4), .val (.int (1 : Int32)), .val (.int pp), .val (.int z0), .val (.int z1), .val (.int z2), .val (.int z3), .val (.ref o5), .val (.int (-1 : Int32)), .unset] [])) (fun t k => XS.icmpYes X15.here hx rfl (pc0 := 242) (pc' := 255) rfl (hb hby at_242) rfl (by decide) (by decide) (by decide) k) ?_
        refine own_via (T15.setTop (mkF m 257 #[.val (.int i0), .val (.int i1), .val (.int i2), .val (.int i3), .val (.int i4), .val (.int (1 : Int32)), .val (.int pp), .val (.int z0), .val (.int z1), .val (.int z2), .val (.int z3), .val (.ref o5), .val (.int (-1 : Int32)), .unset] [(.int (1 : Int32))])) (fun t k => XS.iload X15.here hx rfl (hb hby at_255) rfl k) ?_
        refine own_via (T15.setTop (mkF m 258 #[.val (.int i0), .val (.int i1), .val (.int i2), .val (.int i3), .val (.int i4), .val (.int (1 : Int32)), .val (.int pp), .val (.int z0), .val (.int z1), .val (.int z2), .val (.int z3), .val (.ref o5), .val (.int (-1 : Int32)), .unset] [(.int (3 : Int32)), (.int (1 : Int32))])) (fun t k => XS.iconst X15.here hx rfl (hb hby at_257) k) ?_
        refine own_via (T15.setTop (mkF m 271 #[.val (.int i0), .val (.int i1), .val (.int i2), .val (.int i3), .val (.int i4), .val (.int (1 : Int32)), .val (.int pp), .val (.int z0), .val (.int z1), .val (.int z2), .val (.int z3), .val (.ref o5), .val (.int (-1 : Int32)), .unset] [])) (fun t k => XS.icmpYes X15.here hx rfl (pc0 := 258) (pc' := 271) rfl (hb hby at_258) rfl (by decide) (by decide) (by decide) k) ?_
        exact absurd hcol (by simp [own_has, q0])
    · by_cases hn2 : nn = 2
      · have hn := hn2
        subst hn
        refine own_via (T4.setTop (mkF m 87 #[.val (.int i0), .val (.int i1), .val (.int i2), .val (.int i3), .val (.int i4), .val (.int (2 : Int32)), .val (.int pp), .val (.int z0), .val (.int z1), .val (.int z2), .val (.int z3), .unset, .unset, .unset] [(.int (2 : Int32))])) (fun t k => XS.iload X4.here hx rfl (hb hby at_85) rfl k) ?_
        refine own_via (T4.setTop (mkF m 88 #[.val (.int i0), .val (.int i1), .val (.int i2), .val (.int i3), .val (.int i4), .val (.int (2 : Int32)), .val (.int pp), .val (.int z0), .val (.int z1), .val (.int z2), .val (.int z3), .unset, .unset, .unset] [(.int (1 : Int32)), (.int (2 : Int32))])) (fun t k => XS.iconst X4.here hx rfl (hb hby at_87) k) ?_
        refine own_via (T4.setTop (mkF m 111 #[.val (.int i0), .val (.int i1), .val (.int i2), .val (.int i3), .val (.int i4), .val (.int (2 : Int32)), .val (.int pp), .val (.int z0), .val (.int z1), .val (.int z2), .val (.int z3), .unset, .unset, .unset] [])) (fun t k => XS.icmpYes X4.here hx rfl (pc0 := 88) (pc' := 111) rfl (hb hby at_88) rfl (by decide) (by decide) (by decide) k) ?_
        refine own_via (T4.setTop (mkF m 113 #[.val (.int i0), .val (.int i1), .val (.int i2), .val (.int i3), .val (.int i4), .val (.int (2 : Int32)), .val (.int pp), .val (.int z0), .val (.int z1), .val (.int z2), .val (.int z3), .unset, .unset, .unset] [(.int (2 : Int32))])) (fun t k => XS.iload X4.here hx rfl (hb hby at_111) rfl k) ?_
        refine own_via (T4.setTop (mkF m 114 #[.val (.int i0), .val (.int i1), .val (.int i2), .val (.int i3), .val (.int i4), .val (.int (2 : Int32)), .val (.int pp), .val (.int z0), .val (.int z1), .val (.int z2), .val (.int z3), .unset, .unset, .unset] [(.int (2 : Int32)), (.int (2 : Int32))])) (fun t k => XS.iconst X4.here hx rfl (hb hby at_113) k) ?_
        refine own_via (T4.setTop (mkF m 117 #[.val (.int i0), .val (.int i1), .val (.int i2), .val (.int i3), .val (.int i4), .val (.int (2 : Int32)), .val (.int pp), .val (.int z0), .val (.int z1), .val (.int z2), .val (.int z3), .unset, .unset, .unset] [])) (fun t k => XS.icmpNo X4.here hx rfl (hb hby at_114) rfl (by decide) k) ?_
        obtain ⟨T26, h26, X26, e26, E26, A26, D26, U26, st26⟩ := newO X4 hx hZ hown (hw _ (List.mem_of_getElem? (i := 4) rfl)) (hw _ (List.mem_of_getElem? (i := 5) rfl)) (hw _ (List.mem_of_getElem? (i := 6) rfl)) e4 (g := (mkF m 117 #[.val (.int i0), .val (.int i1), .val (.int i2), .val (.int i3), .val (.int i4), .val (.int (2 : Int32)), .val (.int pp), .val (.int z0), .val (.int z1), .val (.int z2), .val (.int z3), .unset, .unset, .unset] [])) rfl (hb hby at_117) (by decide) (by decide)
        obtain ⟨o26, g26⟩ : ∃ z, z = h0.size := ⟨_, rfl⟩
        rw [← g26] at A26 D26 U26 st26
        have sz_h26 : h0.size ≤ h26.size := E26.1
        have B_h26 : CHr Z own_EL s.vm h0 s.vm h26 := CHr.ext E26 C0.1
        have C_h26 : CHr Z own_EL s.vm h0 s.vm h26 := C0.trans B_h26
        have sf_o26_h26 : Safe Z own_EL s.vm h26 o26 := Safe.ext E26 C0.1 (Safe.new (Nat.le_of_eq g26.symm))
        have lt_o26 : @LT.lt Nat _ o26 h26.size := A26.lt
        refine own_via (T26.setTop (mkF m 120 #[.val (.int i0), .val (.int i1), .val (.int i2), .val (.int i3), .val (.int i4), .val (.int (2 : Int32)), .val (.int pp), .val (.int z0), .val (.int z1), .val (.int z2), .val (.int z3), .unset, .unset, .unset] [(.ref o26)])) (st26) ?_
        refine own_via (T26.setTop (mkF m 121 #[.val (.int i0), .val (.int i1), .val (.int i2), .val (.int i3), .val (.int i4), .val (.int (2 : Int32)), .val (.int pp), .val (.int z0), .val (.int z1), .val (.int z2), .val (.int z3), .unset, .unset, .unset] [(.ref o26), (.ref o26)])) (fun t k => XS.dup X26.here hx rfl (hb hby at_120) rfl rfl k) ?_
        refine own_via (T26.setTop (mkF m 122 #[.val (.int i0), .val (.int i1), .val (.int i2), .val (.int i3), .val (.int i4), .val (.int (2 : Int32)), .val (.int pp), .val (.int z0), .val (.int z1), .val (.int z2), .val (.int z3), .unset, .unset, .unset] [(.int (2 : Int32)), (.ref o26), (.ref o26)])) (fun t k => XS.iconst X26.here hx rfl (hb hby at_121) k) ?_
        obtain ⟨T27, h27, k27, X27, e27, E27, A27, st27⟩ := newP X26 hx hZ (hw _ (List.mem_of_getElem? (i := 7) rfl)) e26 (g := (mkF m 122 #[.val (.int i0), .val (.int i1), .val (.int i2), .val (.int i3), .val (.int i4), .val (.int (2 : Int32)), .val (.int pp), .val (.int z0), .val (.int z1), .val (.int z2), .val (.int z3), .unset, .unset, .unset] [(.int (2 : Int32)), (.ref o26), (.ref o26)])) rfl (hb hby at_122) rfl (by decide) (cap := 2) (by decide) (by decide) (by decide) (by decide)
        obtain ⟨o27, g27⟩ : ∃ z, z = h26.size := ⟨_, rfl⟩
        rw [← g27] at A27 st27
        have sz_h27 : h26.size ≤ h27.size := E27.1
        have B_h27 : CHr Z own_EL s.vm h26 s.vm h27 := CHr.ext E27 C_h26.1
        have C_h27 : CHr Z own_EL s.vm h0 s.vm h27 := C_h26.trans B_h27
        have sf_o26_h27 : Safe Z own_EL s.vm h27 o26 := B_h27.safe (show @LT.lt Nat _ _ _ by omega) sf_o26_h26
        have sf_o27_h27 : Safe Z own_EL s.vm h27 o27 := Safe.ext E27 C_h26.1 (Safe.new (Nat.le_of_eq g27.symm))
        have V27 : Arv Z h27 o27 k27 .char (2 : Int32) [] (.int (0 : Int32)) := Arv.new A27 (by decide)
        have lt_o27 : @LT.lt Nat _ o27 h27.size := V27.lt
        refine own_via (T27.setTop (mkF m 124 #[.val (.int i0), .val (.int i1), .val (.int i2), .val (.int i3), .val (.int i4), .val (.int (2 : Int32)), .val (.int pp), .val (.int z0), .val (.int z1), .val (.int z2), .val (.int z3), .unset, .unset, .unset] [(.ref o27), (.ref o26), (.ref o26)])) (st27) ?_
        refine own_via (T27.setTop (mkF m 125 #[.val (.int i0), .val (.int i1), .val (.int i2), .val (.int i3), .val (.int i4), .val (.int (2 : Int32)), .val (.int pp), .val (.int z0), .val (.int z1), .val (.int z2), .val (.int z3), .unset, .unset, .unset] [(.ref o27), (.ref o27), (.ref o26), (.ref o26)])) (fun t k => XS.dup X27.here hx rfl (hb hby at_124) rfl rfl k) ?_
        refine own_via (T27.setTop (mkF m 126 #[.val (.int i0), .val (.int i1), .val (.int i2), .val (.int i3), .val (.int i4), .val (.int (2 : Int32)), .val (.int pp), .val (.int z0), .val (.int z1), .val (.int z2), .val (.int z3), .unset, .unset, .unset] [(.int (0 : Int32)), (.ref o27), (.ref o27), (.ref o26), (.ref o26)])) (fun t k => XS.iconst X27.here hx rfl (hb hby at_125) k) ?_
        refine own_via (T27.setTop (mkF m 128 #[.val (.int i0), .val (.int i1), .val (.int i2), .val (.int i3), .val (.int i4), .val (.int (2 : Int32)), .val (.int pp), .val (.int z0), .val (.int z1), .val (.int z2), .val (.int z3), .unset, .unset, .unset] [(.int z0), (.int (0 : Int32)), (.ref o27), (.ref o27), (.ref o26), (.ref o26)])) (fun t k => XS.iload X27.here hx rfl (hb hby at_126) rfl k) ?_
        have V28 : Arv Z h27 o27 k27 .char (2 : Int32) [(.int (0 : Int32))] (.int (0 : Int32)) := V27.pad (pad_rep [] (.int (0 : Int32)) 1)
        obtain ⟨c29, A29, q29, S29, M29, H29, U29⟩ := id V28
        obtain ⟨T30, h30, X30, e30, W30, st30⟩ := stC X27 hx hZ e27 A29 (j := (0 : Int32)) (inb_of S29 ⟨(by decide), (by decide)⟩) (g := (mkF m 128 #[.val (.int i0), .val (.int i1), .val (.int i2), .val (.int i3), .val (.int i4), .val (.int (2 : Int32)), .val (.int pp), .val (.int z0), .val (.int z1), .val (.int z2), .val (.int z3), .unset, .unset, .unset] [(.int z0), (.int (0 : Int32)), (.ref o27), (.ref o27), (.ref o26), (.ref o26)])) rfl rfl (hb hby at_128)
        have N30 := Fr.snoc X30 N4 (show @LE.le Nat _ _ _ by omega)
        have sz_h30 : h30.size = h27.size := Wr.size W30
        have B_h30 : CHr Z own_EL s.vm h27 s.vm h30 := CHr.wr W30 sf_o27_h27 C_h27.1
        have C_h30 : CHr Z own_EL s.vm h0 s.vm h30 := C_h27.trans B_h30
        have sf_o26_h30 : Safe Z own_EL s.vm h30 o26 := B_h30.safe (show @LT.lt Nat _ _ _ by omega) sf_o26_h27
        have sf_o27_h30 : Safe Z own_EL s.vm h30 o27 := B_h30.safe (show @LT.lt Nat _ _ _ by omega) sf_o27_h27
        have f31 : Arv Z h30 o27 k27 .char (2 : Int32) [(.int (nar .char z0))] (.int (0 : Int32)) := Arv.set A29 q29 S29 M29 H29 U29 (fits_nar_char _) W30 0 rfl (Nat.le_of_ble_eq_true rfl)
        rw [own_narc r0] at f31
        refine own_via (T30.setTop (mkF m 129 #[.val (.int i0), .val (.int i1), .val (.int i2), .val (.int i3), .val (.int i4), .val (.int (2 : Int32)), .val (.int pp), .val (.int z0), .val (.int z1), .val (.int z2), .val (.int z3), .unset, .unset, .unset] [(.ref o27), (.ref o26), (.ref o26)])) (st30) ?_
        refine own_via (T30.setTop (mkF m 130 #[.val (.int i0), .val (.int i1), .val (.int i2), .val (.int i3), .val (.int i4), .val (.int (2 : Int32)), .val (.int pp), .val (.int z0), .val (.int z1), .val (.int z2), .val (.int z3), .unset, .unset, .unset] [(.ref o27), (.ref o27), (.ref o26), (.ref o26)])) (fun t k => XS.dup X30.here hx rfl (hb hby at_129) rfl rfl k) ?_
        refine own_via (T30.setTop (mkF m 131 #[.val (.int i0), .val (.int i1), .val (.int i2), .val (.int i3), .val (.int i4), .val (.int (2 : Int32)), .val (.int pp), .val (.int z0), .val (.int z1), .val (.int z2), .val (.int z3), .unset, .unset, .unset] [(.int (1 : Int32)), (.ref o27), (.ref o27), (.ref o26), (.ref o26)])) (fun t k => XS.iconst X30.here hx rfl (hb hby at_130) k) ?_
        refine own_via (T30.setTop (mkF m 133 #[.val (.int i0), .val (.int i1), .val (.int i2), .val (.int i3), .val (.int i4), .val (.int (2 : Int32)), .val (.int pp), .val (.int z0), .val (.int z1), .val (.int z2), .val (.int z3), .unset, .unset, .unset] [(.int z1), (.int (1 : Int32)), (.ref o27), (.ref o27), (.ref o26), (.ref o26)])) (fun t k => XS.iload X30.here hx rfl (hb hby at_131) rfl k) ?_
        have V32 : Arv Z h30 o27 k27 .char (2 : Int32) [(.int z0), (.int (0 : Int32))] (.int (0 : Int32)) := f31.pad (pad_rep [(.int z0)] (.int (0 : Int32)) 1)
        obtain ⟨c33, A33, q33, S33, M33, H33, U33⟩ := id V32
        obtain ⟨T34, h34, X34, e34, W34, st34⟩ := stC X30 hx hZ e30 A33 (j := (1 : Int32)) (inb_of S33 ⟨(by decide), (by decide)⟩) (g := (mkF m 133 #[.val (.int i0), .val (.int i1), .val (.int i2), .val (.int i3), .val (.int i4), .val (.int (2 : Int32)), .val (.int pp), .val (.int z0), .val (.int z1), .val (.int z2), .val (.int z3), .unset, .unset, .unset] [(.int z1), (.int (1 : Int32)), (.ref o27), (.ref o27), (.ref o26), (.ref o26)])) rfl rfl (hb hby at_133)
        have N34 := Fr.snoc X34 N30 (show @LE.le Nat _ _ _ by omega)
        have sz_h34 : h34.size = h30.size := Wr.size W34
        have B_h34 : CHr Z own_EL s.vm h30 s.vm h34 := CHr.wr W34 sf_o27_h30 C_h30.1
        have C_h34 : CHr Z own_EL s.vm h0 s.vm h34 := C_h30.trans B_h34
        have sf_o26_h34 : Safe Z own_EL s.vm h34 o26 := B_h34.safe (show @LT.lt Nat _ _ _ by omega) sf_o26_h30
        have sf_o27_h34 : Safe Z own_EL s.vm h34 o27 := B_h34.safe (show @LT.lt Nat _ _ _ by omega) sf_o27_h30
        have f35 : Arv Z h34 o27 k27 .char (2 : Int32) [(.int z0), (.int (nar .char z1))] (.int (0 : Int32)) := Arv.set A33 q33 S33 M33 H33 U33 (fits_nar_char _) W34 1 rfl (Nat.le_of_ble_eq_true rfl)
        rw [own_narc r1] at f35
        refine own_via (T34.setTop (mkF m 134 #[.val (.int i0), .val (.int i1), .val (.int i2), .val (.int i3), .val (.int i4), .val (.int (2 : Int32)), .val (.int pp), .val (.int z0), .val (.int z1), .val (.int z2), .val (.int z3), .unset, .unset, .unset] [(.ref o27), (.ref o26), (.ref o26)])) (st34) ?_
        have hp : ∀ c ∈ ([z0, z1] : List Int32), ¬ c < 0 ∧ ¬ (255 : Int32) < c := by
          intro c hc
          simp only [List.mem_cons, List.not_mem_nil, or_false] at hc
          rcases hc with rfl | rfl
          · exact r0
          · exact r1
        have f36 : Exa Z h34 o26 "java/lang/String" := (((A26.ext E27).wr W30).wr W34)
        have f37 : Fld Z h34 o26 "java/lang/String" "value" "[B" .null := ((((D26 (Or.inr (hw _ (List.mem_of_getElem? (i := 33) rfl))) (ty := (.array .byte)) (by decide)).ext E27).other W30 (Or.inl (show @Ne Nat _ _ by omega))).other W34 (Or.inl (show @Ne Nat _ _ by omega)))
        have f38 : Fld Z h34 o26 "java/lang/String" "coder" "B" (.int (0 : Int32)) := ((((D26 (Or.inr (hw _ (List.mem_of_getElem? (i := 31) rfl))) (ty := .byte) (by decide)).ext E27).other W30 (Or.inl (show @Ne Nat _ _ by omega))).other W34 (Or.inl (show @Ne Nat _ _ by omega)))
        have f39 : Old Z n0 h34 := ((((pf2.ext E26).ext E27).wr W30 (show @LE.le Nat _ _ _ by omega)).wr W34 (show @LE.le Nat _ _ _ by omega))
        obtain ⟨v40, T40, h40, L40, X40, e40, q40, st40⟩ := own_cI X34 hx hZ hown (hw _ (List.mem_of_getElem? (i := 8) rfl)) (hw _ (List.mem_of_getElem? (i := 9) rfl)) (hw _ (List.mem_of_getElem? (i := 10) rfl)) rfl (by decide) (W := 1) (StrChars.Road.backV hZ (own_hws hw) (kI := 4) (hw _ (List.mem_of_getElem? (i := 5) rfl)) (cs := ([z0, z1] : List Int32)) (bs := (([z0, z1] : List Int32)).map (fun c => c.toInt8.toInt32)) (n := 2) (n0 := n0) (by omega) (by omega) f36 f37 f38 f35 (pf0.ext f39.2) hG1 rfl rfl (by decide) (by decide) hp rfl (by decide) (by decide)) e34 (a := o26) (Ls := #[.val (.int i0), .val (.int i1), .val (.int i2), .val (.int i3), .val (.int i4), .val (.int (2 : Int32)), .val (.int pp), .val (.int z0), .val (.int z1), .val (.int z2), .val (.int z3), .unset, .unset, .unset]) (by rw [hml]; rfl) (argsL := [(.ref o27)]) (rest := [(.ref o26)]) rfl (lenOf own_pd95987610 rfl) rfl (Nat.le_of_eq rfl) (hb hby at_134) (by decide) (by decide)
        obtain ⟨rfl, Nq40, Kq40, fE40, fC40, t40, kb40, u40, w40, n40, fV40, fA40⟩ := q40
        have N40 := Fr.app N34 Nq40
        have sz_h40 : h34.size ≤ h40.size := Kq40.1
        have B_h40 : CHr Z own_EL s.vm h34 s.vm h40 := CHr.keep Kq40 (sfS sf_o26_h34 sf0) C_h34.1
        have C_h40 : CHr Z own_EL s.vm h0 s.vm h40 := C_h34.trans B_h40
        have sf_o26_h40 : Safe Z own_EL s.vm h40 o26 := B_h40.safe (show @LT.lt Nat _ _ _ by omega) sf_o26_h34
        have sf_o27_h40 : Safe Z own_EL s.vm h40 o27 := B_h40.safe (show @LT.lt Nat _ _ _ by omega) sf_o27_h34
        have lt_t40 : @LT.lt Nat _ t40 h40.size := fA40.lt
        refine own_via (T40.setTop (mkF m 137 #[.val (.int i0), .val (.int i1), .val (.int i2), .val (.int i3), .val (.int i4), .val (.int (2 : Int32)), .val (.int pp), .val (.int z0), .val (.int z1), .val (.int z2), .val (.int z3), .unset, .unset, .unset] [(.ref o26)])) (st40) ?_
        refine own_via (T40.setTop (mkF m 139 #[.val (.int i0), .val (.int i1), .val (.int i2), .val (.int i3), .val (.int i4), .val (.int (2 : Int32)), .val (.int pp), .val (.int z0), .val (.int z1), .val (.int z2), .val (.int z3), .val (.ref o26), .unset, .unset] [])) (fun t k => XS.astore X40.here hx rfl (hb hby at_137) rfl rfl (l' := #[.val (.int i0), .val (.int i1), .val (.int i2), .val (.int i3), .val (.int i4), .val (.int (2 : Int32)), .val (.int pp), .val (.int z0), .val (.int z1), .val (.int z2), .val (.int z3), .val (.ref o26), .unset, .unset]) rfl k) ?_
        refine own_via (T40.setTop (mkF m 210 #[.val (.int i0), .val (.int i1), .val (.int i2), .val (.int i3), .val (.int i4), .val (.int (2 : Int32)), .val (.int pp), .val (.int z0), .val (.int z1), .val (.int z2), .val (.int z3), .val (.ref o26), .unset, .unset] [])) (fun t k => XS.goto X40.here hx rfl (pc0 := 139) (pc' := 210) rfl (hb hby at_139) (by decide) (by decide) k) ?_
        refine own_via (T40.setTop (mkF m 211 #[.val (.int i0), .val (.int i1), .val (.int i2), .val (.int i3), .val (.int i4), .val (.int (2 : Int32)), .val (.int pp), .val (.int z0), .val (.int z1), .val (.int z2), .val (.int z3), .val (.ref o26), .unset, .unset] [(.int (-1 : Int32))])) (fun t k => XS.iconst X40.here hx rfl (hb hby at_210) k) ?_
        refine own_via (T40.setTop (mkF m 213 #[.val (.int i0), .val (.int i1), .val (.int i2), .val (.int i3), .val (.int i4), .val (.int (2 : Int32)), .val (.int pp), .val (.int z0), .val (.int z1), .val (.int z2), .val (.int z3), .val (.ref o26), .val (.int (-1 : Int32)), .unset] [])) (fun t k => XS.istore X40.here hx rfl (hb hby at_211) rfl (l' := #[.val (.int i0), .val (.int i1), .val (.int i2), .val (.int i3), .val (.int i4), .val (.int (2 : Int32)), .val (.int pp), .val (.int z0), .val (.int z1), .val (.int z2), .val (.int z3), .val (.ref o26), .val (.int (-1 : Int32)), .unset]) rfl k) ?_
        refine own_via (T40.setTop (mkF m 215 #[.val (.int i0), .val (.int i1), .val (.int i2), .val (.int i3), .val (.int i4), .val (.int (2 : Int32)), .val (.int pp), .val (.int z0), .val (.int z1), .val (.int z2), .val (.int z3), .val (.ref o26), .val (.int (-1 : Int32)), .unset] [(.int z0)])) (fun t k => XS.iload X40.here hx rfl (hb hby at_213) rfl k) ?_
        refine own_via (T40.setTop (mkF m 217 #[.val (.int i0), .val (.int i1), .val (.int i2), .val (.int i3), .val (.int i4), .val (.int (2 : Int32)), .val (.int pp), .val (.int z0), .val (.int z1), .val (.int z2), .val (.int z3), .val (.ref o26), .val (.int (-1 : Int32)), .unset] [(.int (58 : Int32)), (.int z0)])) (fun t k => XS.bipush X40.here hx rfl (hb hby at_215) k) ?_
        have J0 :  (z0 = 58) → (¬ z1 = 58) → own_Ends p.tables e below (own_PostH Z own_EL s h0 (Q_rm_law Z i0 i1 i2 i3 i4 G1 fm h0 n0) room_1.cells room_1.slots) (T40.setTop (mkF m 271 #[.val (.int i0), .val (.int i1), .val (.int i2), .val (.int i3), .val (.int i4), .val (.int (2 : Int32)), .val (.int pp), .val (.int z0), .val (.int z1), .val (.int z2), .val (.int z3), .val (.ref o26), .val (.int (0 : Int32)), .unset] [])) := by
          intro q0 q1
          have hli : own_li ([z0, z1] : List Int32) ([z0, z1] : List Int32).length = Int32.ofNat 0 := by
            show (if z1 = 58 then Int32.ofNat 1 else (if z0 = 58 then Int32.ofNat 0 else -1)) = _
            rw [if_neg q1, if_pos q0]
          refine own_via (T40.setTop (mkF m 273 #[.val (.int i0), .val (.int i1), .val (.int i2), .val (.int i3), .val (.int i4), .val (.int (2 : Int32)), .val (.int pp), .val (.int z0), .val (.int z1), .val (.int z2), .val (.int z3), .val (.ref o26), .val (.int (0 : Int32)), .unset] [(.ref o26)])) (fun t k => XS.aload X40.here hx rfl (hb hby at_271) rfl rfl k) ?_
          have f41 : Old Z n0 h40 := (f39.keep Kq40 (allS (show @LE.le Nat _ _ _ by omega) all0))
          obtain ⟨v42, T42, h42, L42, X42, e42, q42, hS42, hZ42, hown42, C42, st42⟩ := own_cSH X40 hx hZ hown (hw _ (List.mem_of_getElem? (i := 34) rfl)) (hw _ (List.mem_of_getElem? (i := 35) rfl)) (hw _ (List.mem_of_getElem? (i := 36) rfl)) (hw _ (List.mem_of_getElem? (i := 37) rfl)) (by decide) (W := 0) (own_bkH (rm_coZ l Z a0 hw o26 t40 kb40 ([z0, z1] : List Int32) G1 fm h40 n0 (by omega) fE40 fV40 fC40 fA40 pf0 pf1 f41 (Nat.le_of_ble_eq_true rfl) hp hG1 rfm hli (Nat.le_of_ble_eq_true rfl)) hZ (hw _ (List.mem_of_getElem? (i := 37) rfl)) (hw _ (List.mem_of_getElem? (i := 36) rfl)) (by decide) (by decide) (own_EW hw) C_h40.1) e40 hS0 (by omega) (Ls := #[.val (.int i0), .val (.int i1), .val (.int i2), .val (.int i3), .val (.int i4), .val (.int (2 : Int32)), .val (.int pp), .val (.int z0), .val (.int z1), .val (.int z2), .val (.int z3), .val (.ref o26), .val (.int (0 : Int32)), .unset]) (by rw [hml]; rfl) (argsL := [(.ref o26)]) (rest := []) rfl (lenOf own_pd51720142 rfl) rfl (Nat.le_of_eq rfl) (hb hby at_273) (by decide) (by decide)
          have hZ42 : Z.Warmed39 (s.setVm T42.vm).vm := hZ42
          obtain ⟨b_42, tb_42, kc_42, rfl, Nq42, Kq42, f43, f44, f45, f46⟩ := q42
          have N42 := Fr.app N40 Nq42
          have sz_h42 : h40.size ≤ h42.size := Kq42.1
          have C_h42 : CHr Z own_EL s.vm h0 T42.vm h42 := C_h40.trans C42
          have sf_o26_h42 : Safe Z own_EL T42.vm h42 o26 := C42.safe (show @LT.lt Nat _ _ _ by omega) sf_o26_h40
          have sf_o27_h42 : Safe Z own_EL T42.vm h42 o27 := C42.safe (show @LT.lt Nat _ _ _ by omega) sf_o27_h40
          have lt_b_42 : @LT.lt Nat _ b_42 h42.size := f43.lt
          have lt_tb_42 : @LT.lt Nat _ tb_42 h42.size := f46.lt
          refine own_via (T42.setTop (mkF m 276 #[.val (.int i0), .val (.int i1), .val (.int i2), .val (.int i3), .val (.int i4), .val (.int (2 : Int32)), .val (.int pp), .val (.int z0), .val (.int z1), .val (.int z2), .val (.int z3), .val (.ref o26), .val (.int (0 : Int32)), .unset] [(.ref b_42)])) (st42) ?_
          refine own_via (T42.setTop (mkF m 278 #[.val (.int i0), .val (.int i1), .val (.int i2), .val (.int i3), .val (.int i4), .val (.int (2 : Int32)), .val (.int pp), .val (.int z0), .val (.int z1), .val (.int z2), .val (.int z3), .val (.ref o26), .val (.int (0 : Int32)), .val (.ref b_42)] [])) (fun t k => XS.astore X42.here hx rfl (hb hby at_276) rfl rfl (l' := #[.val (.int i0), .val (.int i1), .val (.int i2), .val (.int i3), .val (.int i4), .val (.int (2 : Int32)), .val (.int pp), .val (.int z0), .val (.int z1), .val (.int z2), .val (.int z3), .val (.ref o26), .val (.int (0 : Int32)), .val (.ref b_42)]) rfl k) ?_
          refine own_via (T42.setTop (mkF m 280 #[.val (.int i0), .val (.int i1), .val (.int i2), .val (.int i3), .val (.int i4), .val (.int (2 : Int32)), .val (.int pp), .val (.int z0), .val (.int z1), .val (.int z2), .val (.int z3), .val (.ref o26), .val (.int (0 : Int32)), .val (.ref b_42)] [(.ref b_42)])) (fun t k => XS.aload X42.here hx rfl (hb hby at_278) rfl rfl k) ?_
          refine own_via (T42.setTop (mkF m 283 #[.val (.int i0), .val (.int i1), .val (.int i2), .val (.int i3), .val (.int i4), .val (.int (2 : Int32)), .val (.int pp), .val (.int z0), .val (.int z1), .val (.int z2), .val (.int z3), .val (.ref o26), .val (.int (0 : Int32)), .val (.ref b_42)] [])) (fun t k => XS.ifnullNo X42.here hx rfl (hb hby at_280) rfl k) ?_
          refine own_via (T42.setTop (mkF m 285 #[.val (.int i0), .val (.int i1), .val (.int i2), .val (.int i3), .val (.int i4), .val (.int (2 : Int32)), .val (.int pp), .val (.int z0), .val (.int z1), .val (.int z2), .val (.int z3), .val (.ref o26), .val (.int (0 : Int32)), .val (.ref b_42)] [(.ref b_42)])) (fun t k => XS.aload X42.here hx rfl (hb hby at_283) rfl rfl k) ?_
          have hcd47 := StrChars.Road.codOf (cs := ([] : List Int32)) (n := (([] : List Int32) : List Int32).length) rfl (fun c hc => ((fun c (hc : c ∈ ([] : List Int32)) => (nomatch hc : ¬ c < 0 ∧ ¬ (255 : Int32) < c)) c hc).2)
          have hbd48 : ∀ c ∈ (([] : List Int32) : List Int32), ¬ c < 0 ∧ ¬ (65535 : Int32) < c := fun c hc => own_up ((fun c (hc : c ∈ ([] : List Int32)) => (nomatch hc : ¬ c < 0 ∧ ¬ (255 : Int32) < c)) c hc)
          have f49 : Old Z n0 h42 := (f41.keep Kq42 all0)
          obtain ⟨v50, T50, h50, L50, X50, e50, q50, st50⟩ := own_cV X42 hx hZ42 (y := (⟨"java/lang/String", "length", "()I"⟩ : MethodName)) (z := (⟨"java/lang/String", "length", "()I"⟩ : MethodName)) hown42 (hw _ (List.mem_of_getElem? (i := 93) rfl)) (hw _ (List.mem_of_getElem? (i := 44) rfl)) (notFace_of_selects (args := #[]) (mvT hZ42 (hw _ (List.mem_of_getElem? (i := 46) rfl)))) (hw _ (List.mem_of_getElem? (i := 46) rfl)) (hw _ (List.mem_of_getElem? (i := 45) rfl)) (by decide) (W := 0) (k := 0) (j := 0) (Q := fun v h' L => v = some (.int (Int32.ofNat (([] : List Int32) : List Int32).length)) ∧ L = [] ∧ h' = h42) (StrChars.Road.lenW (cs := ([] : List Int32)) hZ42 (own_hln hw) (kI := 4) (hw _ (List.mem_of_getElem? (i := 5) rfl)) f43 f44 f45 f46 hcd47 hbd48 (pf0.ext f49.2) hG1 (Nat.le_of_ble_eq_true rfl) (by decide) (by decide)) e42 f43 (Ls := #[.val (.int i0), .val (.int i1), .val (.int i2), .val (.int i3), .val (.int i4), .val (.int (2 : Int32)), .val (.int pp), .val (.int z0), .val (.int z1), .val (.int z2), .val (.int z3), .val (.ref o26), .val (.int (0 : Int32)), .val (.ref b_42)]) (by rw [hml]; rfl) (argsL := []) (rest := []) rfl (lenOf own_pd93735326 rfl) rfl (Nat.le_of_eq rfl) (hb hby at_285) (by decide) (by decide)
          obtain ⟨rfl, rfl, eq50⟩ := q50
          replace e50 := e50.trans eq50
          have N50 := Fr.app N42 (Fr.nil n0)
          refine own_via (T50.setTop (mkF m 288 #[.val (.int i0), .val (.int i1), .val (.int i2), .val (.int i3), .val (.int i4), .val (.int (2 : Int32)), .val (.int pp), .val (.int z0), .val (.int z1), .val (.int z2), .val (.int z3), .val (.ref o26), .val (.int (0 : Int32)), .val (.ref b_42)] [(.int (Int32.ofNat (([] : List Int32) : List Int32).length))])) (st50) ?_
          refine own_via (T50.setTop (mkF m 290 #[.val (.int i0), .val (.int i1), .val (.int i2), .val (.int i3), .val (.int i4), .val (.int (2 : Int32)), .val (.int pp), .val (.int z0), .val (.int z1), .val (.int z2), .val (.int z3), .val (.ref o26), .val (.int (0 : Int32)), .val (.ref b_42)] [(.int (0 : Int32)), (.int (Int32.ofNat (([] : List Int32) : List Int32).length))])) (fun t k => XS.iload X50.here hx rfl (hb hby at_288) rfl k) ?_
          refine own_via (T50.setTop (mkF m 295 #[.val (.int i0), .val (.int i1), .val (.int i2), .val (.int i3), .val (.int i4), .val (.int (2 : Int32)), .val (.int pp), .val (.int z0), .val (.int z1), .val (.int z2), .val (.int z3), .val (.ref o26), .val (.int (0 : Int32)), .val (.ref b_42)] [])) (fun t k => XS.icmpYes X50.here hx rfl (pc0 := 290) (pc' := 295) rfl (hb hby at_290) rfl (XT.ii_eq_t rfl) (by decide) (by decide) k) ?_
          refine own_via (T50.setTop (mkF m 297 #[.val (.int i0), .val (.int i1), .val (.int i2), .val (.int i3), .val (.int i4), .val (.int (2 : Int32)), .val (.int pp), .val (.int z0), .val (.int z1), .val (.int z2), .val (.int z3), .val (.ref o26), .val (.int (0 : Int32)), .val (.ref b_42)] [(.int (0 : Int32))])) (fun t k => XS.iload X50.here hx rfl (hb hby at_295) rfl k) ?_
          refine own_via (T50.setTop (mkF m 313 #[.val (.int i0), .val (.int i1), .val (.int i2), .val (.int i3), .val (.int i4), .val (.int (2 : Int32)), .val (.int pp), .val (.int z0), .val (.int z1), .val (.int z2), .val (.int z3), .val (.ref o26), .val (.int (0 : Int32)), .val (.ref b_42)] [])) (fun t k => XS.ifYes X50.here hx rfl (pc0 := 297) (pc' := 313) rfl (hb hby at_297) rfl (by decide) (by decide) (by decide) k) ?_
          refine own_via (T50.setTop (mkF m 315 #[.val (.int i0), .val (.int i1), .val (.int i2), .val (.int i3), .val (.int i4), .val (.int (2 : Int32)), .val (.int pp), .val (.int z0), .val (.int z1), .val (.int z2), .val (.int z3), .val (.ref o26), .val (.int (0 : Int32)), .val (.ref b_42)] [(.int (0 : Int32))])) (fun t k => XS.iload X50.here hx rfl (hb hby at_313) rfl k) ?_
          refine own_via (T50.setTop (mkF m 316 #[.val (.int i0), .val (.int i1), .val (.int i2), .val (.int i3), .val (.int i4), .val (.int (2 : Int32)), .val (.int pp), .val (.int z0), .val (.int z1), .val (.int z2), .val (.int z3), .val (.ref o26), .val (.int (0 : Int32)), .val (.ref b_42)] [(.int (1 : Int32)), (.int (0 : Int32))])) (fun t k => XS.iconst X50.here hx rfl (hb hby at_315) k) ?_
          refine own_via (T50.setTop (mkF m 332 #[.val (.int i0), .val (.int i1), .val (.int i2), .val (.int i3), .val (.int i4), .val (.int (2 : Int32)), .val (.int pp), .val (.int z0), .val (.int z1), .val (.int z2), .val (.int z3), .val (.ref o26), .val (.int (0 : Int32)), .val (.ref b_42)] [])) (fun t k => XS.icmpYes X50.here hx rfl (pc0 := 316) (pc' := 332) rfl (hb hby at_316) rfl (by decide) (by decide) (by decide) k) ?_
          refine own_via (T50.setTop (mkF m 334 #[.val (.int i0), .val (.int i1), .val (.int i2), .val (.int i3), .val (.int i4), .val (.int (2 : Int32)), .val (.int pp), .val (.int z0), .val (.int z1), .val (.int z2), .val (.int z3), .val (.ref o26), .val (.int (0 : Int32)), .val (.ref b_42)] [(.int (0 : Int32))])) (fun t k => XS.iload X50.here hx rfl (hb hby at_332) rfl k) ?_
          refine own_via (T50.setTop (mkF m 335 #[.val (.int i0), .val (.int i1), .val (.int i2), .val (.int i3), .val (.int i4), .val (.int (2 : Int32)), .val (.int pp), .val (.int z0), .val (.int z1), .val (.int z2), .val (.int z3), .val (.ref o26), .val (.int (0 : Int32)), .val (.ref b_42)] [(.int (2 : Int32)), (.int (0 : Int32))])) (fun t k => XS.iconst X50.here hx rfl (hb hby at_334) k) ?_
          refine own_via (T50.setTop (mkF m 351 #[.val (.int i0), .val (.int i1), .val (.int i2), .val (.int i3), .val (.int i4), .val (.int (2 : Int32)), .val (.int pp), .val (.int z0), .val (.int z1), .val (.int z2), .val (.int z3), .val (.ref o26), .val (.int (0 : Int32)), .val (.ref b_42)] [])) (fun t k => XS.icmpYes X50.here hx rfl (pc0 := 335) (pc' := 351) rfl (hb hby at_335) rfl (by decide) (by decide) (by decide) k) ?_
          refine own_via (T50.setTop (mkF m 352 #[.val (.int i0), .val (.int i1), .val (.int i2), .val (.int i3), .val (.int i4), .val (.int (2 : Int32)), .val (.int pp), .val (.int z0), .val (.int z1), .val (.int z2), .val (.int z3), .val (.ref o26), .val (.int (0 : Int32)), .val (.ref b_42)] [(.int (1 : Int32))])) (fun t k => XS.iconst X50.here hx rfl (hb hby at_351) k) ?_
          exact own_leaveH X50 hlk hZ42 (own_EW hw) hS42 (by omega) e50 C_h42 (v := some (.int (nar .boolean (1 : Int32)))) (fun h => by rw [hret] at h; cases h) (⟨rfl, N50⟩) (by decide) (by decide) (fun fs hr => retN X50 hx (t := .boolean) hret (by simp) (hb hby at_352) hr)
        have J1 :  (z1 = 58) → own_Ends p.tables e below (own_PostH Z own_EL s h0 (Q_rm_law Z i0 i1 i2 i3 i4 G1 fm h0 n0) room_1.cells room_1.slots) (T40.setTop (mkF m 271 #[.val (.int i0), .val (.int i1), .val (.int i2), .val (.int i3), .val (.int i4), .val (.int (2 : Int32)), .val (.int pp), .val (.int z0), .val (.int z1), .val (.int z2), .val (.int z3), .val (.ref o26), .val (.int (1 : Int32)), .unset] [])) := by
          intro q1
          have hli : own_li ([z0, z1] : List Int32) ([z0, z1] : List Int32).length = Int32.ofNat 1 := by
            show (if z1 = 58 then Int32.ofNat 1 else (if z0 = 58 then Int32.ofNat 0 else -1)) = _
            rw [if_pos q1]
          refine own_via (T40.setTop (mkF m 273 #[.val (.int i0), .val (.int i1), .val (.int i2), .val (.int i3), .val (.int i4), .val (.int (2 : Int32)), .val (.int pp), .val (.int z0), .val (.int z1), .val (.int z2), .val (.int z3), .val (.ref o26), .val (.int (1 : Int32)), .unset] [(.ref o26)])) (fun t k => XS.aload X40.here hx rfl (hb hby at_271) rfl rfl k) ?_
          have f51 : Old Z n0 h40 := (f39.keep Kq40 (allS (show @LE.le Nat _ _ _ by omega) all0))
          obtain ⟨v52, T52, h52, L52, X52, e52, q52, st52⟩ := own_cS X40 hx hZ hown (hw _ (List.mem_of_getElem? (i := 34) rfl)) (hw _ (List.mem_of_getElem? (i := 35) rfl)) (hw _ (List.mem_of_getElem? (i := 36) rfl)) (hw _ (List.mem_of_getElem? (i := 37) rfl)) (by decide) (W := 0) (own_bk (rm_coN l Z a0 hw o26 t40 kb40 ([z0, z1] : List Int32) G1 fm 1 h40 n0 (by omega) fE40 fV40 fC40 fA40 pf0 pf1 f51 (Nat.le_of_ble_eq_true rfl) hp hG1 rfm hli (Nat.le_of_ble_eq_true rfl) (Nat.le_of_ble_eq_true rfl)) hZ (hw _ (List.mem_of_getElem? (i := 37) rfl)) (hw _ (List.mem_of_getElem? (i := 36) rfl)) (by decide) (by decide)) e40 (Ls := #[.val (.int i0), .val (.int i1), .val (.int i2), .val (.int i3), .val (.int i4), .val (.int (2 : Int32)), .val (.int pp), .val (.int z0), .val (.int z1), .val (.int z2), .val (.int z3), .val (.ref o26), .val (.int (1 : Int32)), .unset]) (by rw [hml]; rfl) (argsL := [(.ref o26)]) (rest := []) rfl (lenOf own_pd51720142 rfl) rfl (Nat.le_of_eq rfl) (hb hby at_273) (by decide) (by decide)
          obtain ⟨b_52, tb_52, kc_52, rfl, Nq52, Kq52, f53, f54, f55, f56⟩ := q52
          have N52 := Fr.app N40 Nq52
          have sz_h52 : h40.size ≤ h52.size := Kq52.1
          have B_h52 : CHr Z own_EL s.vm h40 s.vm h52 := CHr.keep Kq52 sf0 C_h40.1
          have C_h52 : CHr Z own_EL s.vm h0 s.vm h52 := C_h40.trans B_h52
          have sf_o26_h52 : Safe Z own_EL s.vm h52 o26 := B_h52.safe (show @LT.lt Nat _ _ _ by omega) sf_o26_h40
          have sf_o27_h52 : Safe Z own_EL s.vm h52 o27 := B_h52.safe (show @LT.lt Nat _ _ _ by omega) sf_o27_h40
          have lt_b_52 : @LT.lt Nat _ b_52 h52.size := f53.lt
          have lt_tb_52 : @LT.lt Nat _ tb_52 h52.size := f56.lt
          refine own_via (T52.setTop (mkF m 276 #[.val (.int i0), .val (.int i1), .val (.int i2), .val (.int i3), .val (.int i4), .val (.int (2 : Int32)), .val (.int pp), .val (.int z0), .val (.int z1), .val (.int z2), .val (.int z3), .val (.ref o26), .val (.int (1 : Int32)), .unset] [(.ref b_52)])) (st52) ?_
          refine own_via (T52.setTop (mkF m 278 #[.val (.int i0), .val (.int i1), .val (.int i2), .val (.int i3), .val (.int i4), .val (.int (2 : Int32)), .val (.int pp), .val (.int z0), .val (.int z1), .val (.int z2), .val (.int z3), .val (.ref o26), .val (.int (1 : Int32)), .val (.ref b_52)] [])) (fun t k => XS.astore X52.here hx rfl (hb hby at_276) rfl rfl (l' := #[.val (.int i0), .val (.int i1), .val (.int i2), .val (.int i3), .val (.int i4), .val (.int (2 : Int32)), .val (.int pp), .val (.int z0), .val (.int z1), .val (.int z2), .val (.int z3), .val (.ref o26), .val (.int (1 : Int32)), .val (.ref b_52)]) rfl k) ?_
          refine own_via (T52.setTop (mkF m 280 #[.val (.int i0), .val (.int i1), .val (.int i2), .val (.int i3), .val (.int i4), .val (.int (2 : Int32)), .val (.int pp), .val (.int z0), .val (.int z1), .val (.int z2), .val (.int z3), .val (.ref o26), .val (.int (1 : Int32)), .val (.ref b_52)] [(.ref b_52)])) (fun t k => XS.aload X52.here hx rfl (hb hby at_278) rfl rfl k) ?_
          refine own_via (T52.setTop (mkF m 283 #[.val (.int i0), .val (.int i1), .val (.int i2), .val (.int i3), .val (.int i4), .val (.int (2 : Int32)), .val (.int pp), .val (.int z0), .val (.int z1), .val (.int z2), .val (.int z3), .val (.ref o26), .val (.int (1 : Int32)), .val (.ref b_52)] [])) (fun t k => XS.ifnullNo X52.here hx rfl (hb hby at_280) rfl k) ?_
          refine own_via (T52.setTop (mkF m 285 #[.val (.int i0), .val (.int i1), .val (.int i2), .val (.int i3), .val (.int i4), .val (.int (2 : Int32)), .val (.int pp), .val (.int z0), .val (.int z1), .val (.int z2), .val (.int z3), .val (.ref o26), .val (.int (1 : Int32)), .val (.ref b_52)] [(.ref b_52)])) (fun t k => XS.aload X52.here hx rfl (hb hby at_283) rfl rfl k) ?_
          have hcd57 := StrChars.Road.codOf (cs := ((([z0, z1] : List Int32).drop 0).take 1)) (n := (((([z0, z1] : List Int32).drop 0).take 1) : List Int32).length) rfl (fun c hc => ((own_hpt hp 0 1) c hc).2)
          have hbd58 : ∀ c ∈ (((([z0, z1] : List Int32).drop 0).take 1) : List Int32), ¬ c < 0 ∧ ¬ (65535 : Int32) < c := fun c hc => own_up ((own_hpt hp 0 1) c hc)
          have f59 : Old Z n0 h52 := (f51.keep Kq52 all0)
          obtain ⟨v60, T60, h60, L60, X60, e60, q60, st60⟩ := own_cV X52 hx hZ (y := (⟨"java/lang/String", "length", "()I"⟩ : MethodName)) (z := (⟨"java/lang/String", "length", "()I"⟩ : MethodName)) hown (hw _ (List.mem_of_getElem? (i := 93) rfl)) (hw _ (List.mem_of_getElem? (i := 44) rfl)) (notFace_of_selects (args := #[]) (mvT hZ (hw _ (List.mem_of_getElem? (i := 46) rfl)))) (hw _ (List.mem_of_getElem? (i := 46) rfl)) (hw _ (List.mem_of_getElem? (i := 45) rfl)) (by decide) (W := 0) (k := 0) (j := 0) (Q := fun v h' L => v = some (.int (Int32.ofNat (((([z0, z1] : List Int32).drop 0).take 1) : List Int32).length)) ∧ L = [] ∧ h' = h52) (StrChars.Road.lenW (cs := ((([z0, z1] : List Int32).drop 0).take 1)) hZ (own_hln hw) (kI := 4) (hw _ (List.mem_of_getElem? (i := 5) rfl)) f53 f54 f55 f56 hcd57 hbd58 (pf0.ext f59.2) hG1 (Nat.le_of_ble_eq_true rfl) (by decide) (by decide)) e52 f53 (Ls := #[.val (.int i0), .val (.int i1), .val (.int i2), .val (.int i3), .val (.int i4), .val (.int (2 : Int32)), .val (.int pp), .val (.int z0), .val (.int z1), .val (.int z2), .val (.int z3), .val (.ref o26), .val (.int (1 : Int32)), .val (.ref b_52)]) (by rw [hml]; rfl) (argsL := []) (rest := []) rfl (lenOf own_pd93735326 rfl) rfl (Nat.le_of_eq rfl) (hb hby at_285) (by decide) (by decide)
          obtain ⟨rfl, rfl, eq60⟩ := q60
          replace e60 := e60.trans eq60
          have N60 := Fr.app N52 (Fr.nil n0)
          refine own_via (T60.setTop (mkF m 288 #[.val (.int i0), .val (.int i1), .val (.int i2), .val (.int i3), .val (.int i4), .val (.int (2 : Int32)), .val (.int pp), .val (.int z0), .val (.int z1), .val (.int z2), .val (.int z3), .val (.ref o26), .val (.int (1 : Int32)), .val (.ref b_52)] [(.int (Int32.ofNat (((([z0, z1] : List Int32).drop 0).take 1) : List Int32).length))])) (st60) ?_
          refine own_via (T60.setTop (mkF m 290 #[.val (.int i0), .val (.int i1), .val (.int i2), .val (.int i3), .val (.int i4), .val (.int (2 : Int32)), .val (.int pp), .val (.int z0), .val (.int z1), .val (.int z2), .val (.int z3), .val (.ref o26), .val (.int (1 : Int32)), .val (.ref b_52)] [(.int (1 : Int32)), (.int (Int32.ofNat (((([z0, z1] : List Int32).drop 0).take 1) : List Int32).length))])) (fun t k => XS.iload X60.here hx rfl (hb hby at_288) rfl k) ?_
          refine own_via (T60.setTop (mkF m 295 #[.val (.int i0), .val (.int i1), .val (.int i2), .val (.int i3), .val (.int i4), .val (.int (2 : Int32)), .val (.int pp), .val (.int z0), .val (.int z1), .val (.int z2), .val (.int z3), .val (.ref o26), .val (.int (1 : Int32)), .val (.ref b_52)] [])) (fun t k => XS.icmpYes X60.here hx rfl (pc0 := 290) (pc' := 295) rfl (hb hby at_290) rfl (XT.ii_eq_t rfl) (by decide) (by decide) k) ?_
          refine own_via (T60.setTop (mkF m 297 #[.val (.int i0), .val (.int i1), .val (.int i2), .val (.int i3), .val (.int i4), .val (.int (2 : Int32)), .val (.int pp), .val (.int z0), .val (.int z1), .val (.int z2), .val (.int z3), .val (.ref o26), .val (.int (1 : Int32)), .val (.ref b_52)] [(.int (1 : Int32))])) (fun t k => XS.iload X60.here hx rfl (hb hby at_295) rfl k) ?_
          refine own_via (T60.setTop (mkF m 300 #[.val (.int i0), .val (.int i1), .val (.int i2), .val (.int i3), .val (.int i4), .val (.int (2 : Int32)), .val (.int pp), .val (.int z0), .val (.int z1), .val (.int z2), .val (.int z3), .val (.ref o26), .val (.int (1 : Int32)), .val (.ref b_52)] [])) (fun t k => XS.ifNo X60.here hx rfl (hb hby at_297) rfl (by decide) k) ?_
          refine own_via (T60.setTop (mkF m 302 #[.val (.int i0), .val (.int i1), .val (.int i2), .val (.int i3), .val (.int i4), .val (.int (2 : Int32)), .val (.int pp), .val (.int z0), .val (.int z1), .val (.int z2), .val (.int z3), .val (.ref o26), .val (.int (1 : Int32)), .val (.ref b_52)] [(.ref b_52)])) (fun t k => XS.aload X60.here hx rfl (hb hby at_300) rfl rfl k) ?_
          refine own_via (T60.setTop (mkF m 303 #[.val (.int i0), .val (.int i1), .val (.int i2), .val (.int i3), .val (.int i4), .val (.int (2 : Int32)), .val (.int pp), .val (.int z0), .val (.int z1), .val (.int z2), .val (.int z3), .val (.ref o26), .val (.int (1 : Int32)), .val (.ref b_52)] [(.int (0 : Int32)), (.ref b_52)])) (fun t k => XS.iconst X60.here hx rfl (hb hby at_302) k) ?_
          have hcd61 := StrChars.Road.codOf (cs := ((([z0, z1] : List Int32).drop 0).take 1)) (n := (((([z0, z1] : List Int32).drop 0).take 1) : List Int32).length) rfl (fun c hc => ((own_hpt hp 0 1) c hc).2)
          have hbd62 : ∀ c ∈ (((([z0, z1] : List Int32).drop 0).take 1) : List Int32), ¬ c < 0 ∧ ¬ (65535 : Int32) < c := fun c hc => own_up ((own_hpt hp 0 1) c hc)
          obtain ⟨v63, T63, h63, L63, X63, e63, q63, st63⟩ := own_cV X60 hx hZ (y := (⟨"java/lang/String", "charAt", "(I)C"⟩ : MethodName)) (z := (⟨"java/lang/String", "charAt", "(I)C"⟩ : MethodName)) hown (hw _ (List.mem_of_getElem? (i := 113) rfl)) (hw _ (List.mem_of_getElem? (i := 114) rfl)) (notFace_of_selects (args := #[]) (mvT hZ (hw _ (List.mem_of_getElem? (i := 116) rfl)))) (hw _ (List.mem_of_getElem? (i := 116) rfl)) (hw _ (List.mem_of_getElem? (i := 115) rfl)) (by decide) (W := 0) (k := 0) (j := 0) (Q := fun v h' L => v = some (.int ((((([z0, z1] : List Int32).drop 0).take 1) : List Int32).getD 0 0)) ∧ L = [] ∧ h' = h52) (StrChars.Road.chN (cs := ((([z0, z1] : List Int32).drop 0).take 1)) hZ (own_hch hw) (kI := 4) (hw _ (List.mem_of_getElem? (i := 5) rfl)) f53 f54 f55 f56 hcd61 hbd62 (pf0.ext f59.2) hG1 (pf1.ext f59.2) rfm (Nat.le_of_ble_eq_true rfl) (i := 0) (Nat.le_of_ble_eq_true rfl) rfl (by decide) (by decide)) e60 f53 (Ls := #[.val (.int i0), .val (.int i1), .val (.int i2), .val (.int i3), .val (.int i4), .val (.int (2 : Int32)), .val (.int pp), .val (.int z0), .val (.int z1), .val (.int z2), .val (.int z3), .val (.ref o26), .val (.int (1 : Int32)), .val (.ref b_52)]) (by rw [hml]; rfl) (argsL := [(.int (0 : Int32))]) (rest := []) rfl (lenOf own_pd55318145 rfl) rfl (Nat.le_of_eq rfl) (hb hby at_303) (by decide) (by decide)
          obtain ⟨rfl, rfl, eq63⟩ := q63
          replace e63 := e63.trans eq63
          have N63 := Fr.app N60 (Fr.nil n0)
          refine own_via (T63.setTop (mkF m 306 #[.val (.int i0), .val (.int i1), .val (.int i2), .val (.int i3), .val (.int i4), .val (.int (2 : Int32)), .val (.int pp), .val (.int z0), .val (.int z1), .val (.int z2), .val (.int z3), .val (.ref o26), .val (.int (1 : Int32)), .val (.ref b_52)] [(.int ((((([z0, z1] : List Int32).drop 0).take 1) : List Int32).getD 0 0))])) (st63) ?_
          refine own_via (T63.setTop (mkF m 308 #[.val (.int i0), .val (.int i1), .val (.int i2), .val (.int i3), .val (.int i4), .val (.int (2 : Int32)), .val (.int pp), .val (.int z0), .val (.int z1), .val (.int z2), .val (.int z3), .val (.ref o26), .val (.int (1 : Int32)), .val (.ref b_52)] [(.int z0), (.int ((((([z0, z1] : List Int32).drop 0).take 1) : List Int32).getD 0 0))])) (fun t k => XS.iload X63.here hx rfl (hb hby at_306) rfl k) ?_
          refine own_via (T63.setTop (mkF m 313 #[.val (.int i0), .val (.int i1), .val (.int i2), .val (.int i3), .val (.int i4), .val (.int (2 : Int32)), .val (.int pp), .val (.int z0), .val (.int z1), .val (.int z2), .val (.int z3), .val (.ref o26), .val (.int (1 : Int32)), .val (.ref b_52)] [])) (fun t k => XS.icmpYes X63.here hx rfl (pc0 := 308) (pc' := 313) rfl (hb hby at_308) rfl (XT.ii_eq_t rfl) (by decide) (by decide) k) ?_
          refine own_via (T63.setTop (mkF m 315 #[.val (.int i0), .val (.int i1), .val (.int i2), .val (.int i3), .val (.int i4), .val (.int (2 : Int32)), .val (.int pp), .val (.int z0), .val (.int z1), .val (.int z2), .val (.int z3), .val (.ref o26), .val (.int (1 : Int32)), .val (.ref b_52)] [(.int (1 : Int32))])) (fun t k => XS.iload X63.here hx rfl (hb hby at_313) rfl k) ?_
          refine own_via (T63.setTop (mkF m 316 #[.val (.int i0), .val (.int i1), .val (.int i2), .val (.int i3), .val (.int i4), .val (.int (2 : Int32)), .val (.int pp), .val (.int z0), .val (.int z1), .val (.int z2), .val (.int z3), .val (.ref o26), .val (.int (1 : Int32)), .val (.ref b_52)] [(.int (1 : Int32)), (.int (1 : Int32))])) (fun t k => XS.iconst X63.here hx rfl (hb hby at_315) k) ?_
          refine own_via (T63.setTop (mkF m 332 #[.val (.int i0), .val (.int i1), .val (.int i2), .val (.int i3), .val (.int i4), .val (.int (2 : Int32)), .val (.int pp), .val (.int z0), .val (.int z1), .val (.int z2), .val (.int z3), .val (.ref o26), .val (.int (1 : Int32)), .val (.ref b_52)] [])) (fun t k => XS.icmpYes X63.here hx rfl (pc0 := 316) (pc' := 332) rfl (hb hby at_316) rfl (by decide) (by decide) (by decide) k) ?_
          refine own_via (T63.setTop (mkF m 334 #[.val (.int i0), .val (.int i1), .val (.int i2), .val (.int i3), .val (.int i4), .val (.int (2 : Int32)), .val (.int pp), .val (.int z0), .val (.int z1), .val (.int z2), .val (.int z3), .val (.ref o26), .val (.int (1 : Int32)), .val (.ref b_52)] [(.int (1 : Int32))])) (fun t k => XS.iload X63.here hx rfl (hb hby at_332) rfl k) ?_
          refine own_via (T63.setTop (mkF m 335 #[.val (.int i0), .val (.int i1), .val (.int i2), .val (.int i3), .val (.int i4), .val (.int (2 : Int32)), .val (.int pp), .val (.int z0), .val (.int z1), .val (.int z2), .val (.int z3), .val (.ref o26), .val (.int (1 : Int32)), .val (.ref b_52)] [(.int (2 : Int32)), (.int (1 : Int32))])) (fun t k => XS.iconst X63.here hx rfl (hb hby at_334) k) ?_
          refine own_via (T63.setTop (mkF m 351 #[.val (.int i0), .val (.int i1), .val (.int i2), .val (.int i3), .val (.int i4), .val (.int (2 : Int32)), .val (.int pp), .val (.int z0), .val (.int z1), .val (.int z2), .val (.int z3), .val (.ref o26), .val (.int (1 : Int32)), .val (.ref b_52)] [])) (fun t k => XS.icmpYes X63.here hx rfl (pc0 := 335) (pc' := 351) rfl (hb hby at_335) rfl (by decide) (by decide) (by decide) k) ?_
          refine own_via (T63.setTop (mkF m 352 #[.val (.int i0), .val (.int i1), .val (.int i2), .val (.int i3), .val (.int i4), .val (.int (2 : Int32)), .val (.int pp), .val (.int z0), .val (.int z1), .val (.int z2), .val (.int z3), .val (.ref o26), .val (.int (1 : Int32)), .val (.ref b_52)] [(.int (1 : Int32))])) (fun t k => XS.iconst X63.here hx rfl (hb hby at_351) k) ?_
          exact own_leaveH X63 hlk hZ (own_EW hw) hS0 (by omega) e63 C_h52 (v := some (.int (nar .boolean (1 : Int32)))) (fun h => by rw [hret] at h; cases h) (⟨rfl, N63⟩) (by decide) (by decide) (fun fs hr => retN X63 hx (t := .boolean) hret (by simp) (hb hby at_352) hr)
        by_cases q0 : z0 = (58 : Int32)
        · refine own_via (T40.setTop (mkF m 220 #[.val (.int i0), .val (.int i1), .val (.int i2), .val (.int i3), .val (.int i4), .val (.int (2 : Int32)), .val (.int pp), .val (.int z0), .val (.int z1), .val (.int z2), .val (.int z3), .val (.ref o26), .val (.int (-1 : Int32)), .unset] [])) (fun t k => XS.icmpNo X40.here hx rfl (hb hby at_217) rfl (XT.ii_ne_f q0) k) ?_
          refine own_via (T40.setTop (mkF m 221 #[.val (.int i0), .val (.int i1), .val (.int i2), .val (.int i3), .val (.int i4), .val (.int (2 : Int32)), .val (.int pp), .val (.int z0), .val (.int z1), .val (.int z2), .val (.int z3), .val (.ref o26), .val (.int (-1 : Int32)), .unset] [(.int (0 : Int32))])) (fun t k => XS.iconst X40.here hx rfl (hb hby at_220) k) ?_
          refine own_via (T40.setTop (mkF m 223 #[.val (.int i0), .val (.int i1), .val (.int i2), .val (.int i3), .val (.int i4), .val (.int (2 : Int32)), .val (.int pp), .val (.int z0), .val (.int z1), .val (.int z2), .val (.int z3), .val (.ref o26), .val (.int (0 : Int32)), .unset] [])) (fun t k => XS.istore X40.here hx rfl (hb hby at_221) rfl (l' := #[.val (.int i0), .val (.int i1), .val (.int i2), .val (.int i3), .val (.int i4), .val (.int (2 : Int32)), .val (.int pp), .val (.int z0), .val (.int z1), .val (.int z2), .val (.int z3), .val (.ref o26), .val (.int (0 : Int32)), .unset]) rfl k) ?_
          refine own_via (T40.setTop (mkF m 225 #[.val (.int i0), .val (.int i1), .val (.int i2), .val (.int i3), .val (.int i4), .val (.int (2 : Int32)), .val (.int pp), .val (.int z0), .val (.int z1), .val (.int z2), .val (.int z3), .val (.ref o26), .val (.int (0 : Int32)), .unset] [(.int (2 : Int32))])) (fun t k => XS.iload X40.here hx rfl (hb hby at_223) rfl k) ?_
          refine own_via (T40.setTop (mkF m 226 #[.val (.int i0), .val (.int i1), .val (.int i2), .val (.int i3), .val (.int i4), .val (.int (2 : Int32)), .val (.int pp), .val (.int z0), .val (.int z1), .val (.int z2), .val (.int z3), .val (.ref o26), .val (.int (0 : Int32)), .unset] [(.int (1 : Int32)), (.int (2 : Int32))])) (fun t k => XS.iconst X40.here hx rfl (hb hby at_225) k) ?_
          refine own_via (T40.setTop (mkF m 229 #[.val (.int i0), .val (.int i1), .val (.int i2), .val (.int i3), .val (.int i4), .val (.int (2 : Int32)), .val (.int pp), .val (.int z0), .val (.int z1), .val (.int z2), .val (.int z3), .val (.ref o26), .val (.int (0 : Int32)), .unset] [])) (fun t k => XS.icmpNo X40.here hx rfl (hb hby at_226) rfl (by decide) k) ?_
          refine own_via (T40.setTop (mkF m 231 #[.val (.int i0), .val (.int i1), .val (.int i2), .val (.int i3), .val (.int i4), .val (.int (2 : Int32)), .val (.int pp), .val (.int z0), .val (.int z1), .val (.int z2), .val (.int z3), .val (.ref o26), .val (.int (0 : Int32)), .unset] [(.int z1)])) (fun t k => XS.iload X40.here hx rfl (hb hby at_229) rfl k) ?_
          refine own_via (T40.setTop (mkF m 233 #[.val (.int i0), .val (.int i1), .val (.int i2), .val (.int i3), .val (.int i4), .val (.int (2 : Int32)), .val (.int pp), .val (.int z0), .val (.int z1), .val (.int z2), .val (.int z3), .val (.ref o26), .val (.int (0 : Int32)), .unset] [(.int (58 : Int32)), (.int z1)])) (fun t k => XS.bipush X40.here hx rfl (hb hby at_231) k) ?_
          by_cases q1 : z1 = (58 : Int32)
          · refine own_via (T40.setTop (mkF m 236 #[.val (.int i0), .val (.int i1), .val (.int i2), .val (.int i3), .val (.int i4), .val (.int (2 : Int32)), .val (.int pp), .val (.int z0), .val (.int z1), .val (.int z2), .val (.int z3), .val (.ref o26), .val (.int (0 : Int32)), .unset] [])) (fun t k => XS.icmpNo X40.here hx rfl (hb hby at_233) rfl (XT.ii_ne_f q1) k) ?_
            refine own_via (T40.setTop (mkF m 237 #[.val (.int i0), .val (.int i1), .val (.int i2), .val (.int i3), .val (.int i4), .val (.int (2 : Int32)), .val (.int pp), .val (.int z0), .val (.int z1), .val (.int z2), .val (.int z3), .val (.ref o26), .val (.int (0 : Int32)), .unset] [(.int (1 : Int32))])) (fun t k => XS.iconst X40.here hx rfl (hb hby at_236) k) ?_
            refine own_via (T40.setTop (mkF m 239 #[.val (.int i0), .val (.int i1), .val (.int i2), .val (.int i3), .val (.int i4), .val (.int (2 : Int32)), .val (.int pp), .val (.int z0), .val (.int z1), .val (.int z2), .val (.int z3), .val (.ref o26), .val (.int (1 : Int32)), .unset] [])) (fun t k => XS.istore X40.here hx rfl (hb hby at_237) rfl (l' := #[.val (.int i0), .val (.int i1), .val (.int i2), .val (.int i3), .val (.int i4), .val (.int (2 : Int32)), .val (.int pp), .val (.int z0), .val (.int z1), .val (.int z2), .val (.int z3), .val (.ref o26), .val (.int (1 : Int32)), .unset]) rfl k) ?_
            refine own_via (T40.setTop (mkF m 241 #[.val (.int i0), .val (.int i1), .val (.int i2), .val (.int i3), .val (.int i4), .val (.int (2 : Int32)), .val (.int pp), .val (.int z0), .val (.int z1), .val (.int z2), .val (.int z3), .val (.ref o26), .val (.int (1 : Int32)), .unset] [(.int (2 : Int32))])) (fun t k => XS.iload X40.here hx rfl (hb hby at_239) rfl k) ?_
            refine own_via (T40.setTop (mkF m 242 #[.val (.int i0), .val (.int i1), .val (.int i2), .val (.int i3), .val (.int i4), .val (.int (2 : Int32)), .val (.int pp), .val (.int z0), .val (.int z1), .val (.int z2), .val (.int z3), .val (.ref o26), .val (.int (1 : Int32)), .unset] [(.int (2 : Int32)), (.int (2 : Int32))])) (fun t k => XS.iconst X40.here hx rfl (hb hby at_241) k) ?_
            refine own_via (T40.setTop (mkF m 255 #[.val (.int i0), .val (.int i1), .val (.int i2), .val (.int i3), .val (.int i4), .val (.int (2 : Int32)), .val (.int pp), .val (.int z0), .val (.int z1), .val (.int z2), .val (.int z3), .val (.ref o26), .val (.int (1 : Int32)), .unset] [])) (fun t k => XS.icmpYes X40.here hx rfl (pc0 := 242) (pc' := 255) rfl (hb hby at_242) rfl (by decide) (by decide) (by decide) k) ?_
            refine own_via (T40.setTop (mkF m 257 #[.val (.int i0), .val (.int i1), .val (.int i2), .val (.int i3), .val (.int i4), .val (.int (2 : Int32)), .val (.int pp), .val (.int z0), .val (.int z1), .val (.int z2), .val (.int z3), .val (.ref o26), .val (.int (1 : Int32)), .unset] [(.int (2 : Int32))])) (fun t k => XS.iload X40.here hx rfl (hb hby at_255) rfl k) ?_
            refine own_via (T40.setTop (mkF m 258 #[.val (.int i0), .val (.int i1), .val (.int i2), .val (.int i3), .val (.int i4), .val (.int (2 : Int32)), .val (.int pp), .val (.int z0), .val (.int z1), .val (.int z2), .val (.int z3), .val (.ref o26), .val (.int (1 : Int32)), .unset] [(.int (3 : Int32)), (.int (2 : Int32))])) (fun t k => XS.iconst X40.here hx rfl (hb hby at_257) k) ?_
            refine own_via (T40.setTop (mkF m 271 #[.val (.int i0), .val (.int i1), .val (.int i2), .val (.int i3), .val (.int i4), .val (.int (2 : Int32)), .val (.int pp), .val (.int z0), .val (.int z1), .val (.int z2), .val (.int z3), .val (.ref o26), .val (.int (1 : Int32)), .unset] [])) (fun t k => XS.icmpYes X40.here hx rfl (pc0 := 258) (pc' := 271) rfl (hb hby at_258) rfl (by decide) (by decide) (by decide) k) ?_
            exact J1 q1
          · refine own_via (T40.setTop (mkF m 239 #[.val (.int i0), .val (.int i1), .val (.int i2), .val (.int i3), .val (.int i4), .val (.int (2 : Int32)), .val (.int pp), .val (.int z0), .val (.int z1), .val (.int z2), .val (.int z3), .val (.ref o26), .val (.int (0 : Int32)), .unset] [])) (fun t k => XS.icmpYes X40.here hx rfl (pc0 := 233) (pc' := 239) rfl (hb hby at_233) rfl (XT.ii_ne_t q1) (by decide) (by decide) k) ?_
            refine own_via (T40.setTop (mkF m 241 #[.val (.int i0), .val (.int i1), .val (.int i2), .val (.int i3), .val (.int i4), .val (.int (2 : Int32)), .val (.int pp), .val (.int z0), .val (.int z1), .val (.int z2), .val (.int z3), .val (.ref o26), .val (.int (0 : Int32)), .unset] [(.int (2 : Int32))])) (fun t k => XS.iload X40.here hx rfl (hb hby at_239) rfl k) ?_
            refine own_via (T40.setTop (mkF m 242 #[.val (.int i0), .val (.int i1), .val (.int i2), .val (.int i3), .val (.int i4), .val (.int (2 : Int32)), .val (.int pp), .val (.int z0), .val (.int z1), .val (.int z2), .val (.int z3), .val (.ref o26), .val (.int (0 : Int32)), .unset] [(.int (2 : Int32)), (.int (2 : Int32))])) (fun t k => XS.iconst X40.here hx rfl (hb hby at_241) k) ?_
            refine own_via (T40.setTop (mkF m 255 #[.val (.int i0), .val (.int i1), .val (.int i2), .val (.int i3), .val (.int i4), .val (.int (2 : Int32)), .val (.int pp), .val (.int z0), .val (.int z1), .val (.int z2), .val (.int z3), .val (.ref o26), .val (.int (0 : Int32)), .unset] [])) (fun t k => XS.icmpYes X40.here hx rfl (pc0 := 242) (pc' := 255) rfl (hb hby at_242) rfl (by decide) (by decide) (by decide) k) ?_
            refine own_via (T40.setTop (mkF m 257 #[.val (.int i0), .val (.int i1), .val (.int i2), .val (.int i3), .val (.int i4), .val (.int (2 : Int32)), .val (.int pp), .val (.int z0), .val (.int z1), .val (.int z2), .val (.int z3), .val (.ref o26), .val (.int (0 : Int32)), .unset] [(.int (2 : Int32))])) (fun t k => XS.iload X40.here hx rfl (hb hby at_255) rfl k) ?_
            refine own_via (T40.setTop (mkF m 258 #[.val (.int i0), .val (.int i1), .val (.int i2), .val (.int i3), .val (.int i4), .val (.int (2 : Int32)), .val (.int pp), .val (.int z0), .val (.int z1), .val (.int z2), .val (.int z3), .val (.ref o26), .val (.int (0 : Int32)), .unset] [(.int (3 : Int32)), (.int (2 : Int32))])) (fun t k => XS.iconst X40.here hx rfl (hb hby at_257) k) ?_
            refine own_via (T40.setTop (mkF m 271 #[.val (.int i0), .val (.int i1), .val (.int i2), .val (.int i3), .val (.int i4), .val (.int (2 : Int32)), .val (.int pp), .val (.int z0), .val (.int z1), .val (.int z2), .val (.int z3), .val (.ref o26), .val (.int (0 : Int32)), .unset] [])) (fun t k => XS.icmpYes X40.here hx rfl (pc0 := 258) (pc' := 271) rfl (hb hby at_258) rfl (by decide) (by decide) (by decide) k) ?_
            exact J0 q0 q1
        · refine own_via (T40.setTop (mkF m 223 #[.val (.int i0), .val (.int i1), .val (.int i2), .val (.int i3), .val (.int i4), .val (.int (2 : Int32)), .val (.int pp), .val (.int z0), .val (.int z1), .val (.int z2), .val (.int z3), .val (.ref o26), .val (.int (-1 : Int32)), .unset] [])) (fun t k => XS.icmpYes X40.here hx rfl (pc0 := 217) (pc' := 223) rfl (hb hby at_217) rfl (XT.ii_ne_t q0) (by decide) (by decide) k) ?_
          refine own_via (T40.setTop (mkF m 225 #[.val (.int i0), .val (.int i1), .val (.int i2), .val (.int i3), .val (.int i4), .val (.int (2 : Int32)), .val (.int pp), .val (.int z0), .val (.int z1), .val (.int z2), .val (.int z3), .val (.ref o26), .val (.int (-1 : Int32)), .unset] [(.int (2 : Int32))])) (fun t k => XS.iload X40.here hx rfl (hb hby at_223) rfl k) ?_
          refine own_via (T40.setTop (mkF m 226 #[.val (.int i0), .val (.int i1), .val (.int i2), .val (.int i3), .val (.int i4), .val (.int (2 : Int32)), .val (.int pp), .val (.int z0), .val (.int z1), .val (.int z2), .val (.int z3), .val (.ref o26), .val (.int (-1 : Int32)), .unset] [(.int (1 : Int32)), (.int (2 : Int32))])) (fun t k => XS.iconst X40.here hx rfl (hb hby at_225) k) ?_
          refine own_via (T40.setTop (mkF m 229 #[.val (.int i0), .val (.int i1), .val (.int i2), .val (.int i3), .val (.int i4), .val (.int (2 : Int32)), .val (.int pp), .val (.int z0), .val (.int z1), .val (.int z2), .val (.int z3), .val (.ref o26), .val (.int (-1 : Int32)), .unset] [])) (fun t k => XS.icmpNo X40.here hx rfl (hb hby at_226) rfl (by decide) k) ?_
          refine own_via (T40.setTop (mkF m 231 #[.val (.int i0), .val (.int i1), .val (.int i2), .val (.int i3), .val (.int i4), .val (.int (2 : Int32)), .val (.int pp), .val (.int z0), .val (.int z1), .val (.int z2), .val (.int z3), .val (.ref o26), .val (.int (-1 : Int32)), .unset] [(.int z1)])) (fun t k => XS.iload X40.here hx rfl (hb hby at_229) rfl k) ?_
          refine own_via (T40.setTop (mkF m 233 #[.val (.int i0), .val (.int i1), .val (.int i2), .val (.int i3), .val (.int i4), .val (.int (2 : Int32)), .val (.int pp), .val (.int z0), .val (.int z1), .val (.int z2), .val (.int z3), .val (.ref o26), .val (.int (-1 : Int32)), .unset] [(.int (58 : Int32)), (.int z1)])) (fun t k => XS.bipush X40.here hx rfl (hb hby at_231) k) ?_
          by_cases q1 : z1 = (58 : Int32)
          · refine own_via (T40.setTop (mkF m 236 #[.val (.int i0), .val (.int i1), .val (.int i2), .val (.int i3), .val (.int i4), .val (.int (2 : Int32)), .val (.int pp), .val (.int z0), .val (.int z1), .val (.int z2), .val (.int z3), .val (.ref o26), .val (.int (-1 : Int32)), .unset] [])) (fun t k => XS.icmpNo X40.here hx rfl (hb hby at_233) rfl (XT.ii_ne_f q1) k) ?_
            refine own_via (T40.setTop (mkF m 237 #[.val (.int i0), .val (.int i1), .val (.int i2), .val (.int i3), .val (.int i4), .val (.int (2 : Int32)), .val (.int pp), .val (.int z0), .val (.int z1), .val (.int z2), .val (.int z3), .val (.ref o26), .val (.int (-1 : Int32)), .unset] [(.int (1 : Int32))])) (fun t k => XS.iconst X40.here hx rfl (hb hby at_236) k) ?_
            refine own_via (T40.setTop (mkF m 239 #[.val (.int i0), .val (.int i1), .val (.int i2), .val (.int i3), .val (.int i4), .val (.int (2 : Int32)), .val (.int pp), .val (.int z0), .val (.int z1), .val (.int z2), .val (.int z3), .val (.ref o26), .val (.int (1 : Int32)), .unset] [])) (fun t k => XS.istore X40.here hx rfl (hb hby at_237) rfl (l' := #[.val (.int i0), .val (.int i1), .val (.int i2), .val (.int i3), .val (.int i4), .val (.int (2 : Int32)), .val (.int pp), .val (.int z0), .val (.int z1), .val (.int z2), .val (.int z3), .val (.ref o26), .val (.int (1 : Int32)), .unset]) rfl k) ?_
            refine own_via (T40.setTop (mkF m 241 #[.val (.int i0), .val (.int i1), .val (.int i2), .val (.int i3), .val (.int i4), .val (.int (2 : Int32)), .val (.int pp), .val (.int z0), .val (.int z1), .val (.int z2), .val (.int z3), .val (.ref o26), .val (.int (1 : Int32)), .unset] [(.int (2 : Int32))])) (fun t k => XS.iload X40.here hx rfl (hb hby at_239) rfl k) ?_
            refine own_via (T40.setTop (mkF m 242 #[.val (.int i0), .val (.int i1), .val (.int i2), .val (.int i3), .val (.int i4), .val (.int (2 : Int32)), .val (.int pp), .val (.int z0), .val (.int z1), .val (.int z2), .val (.int z3), .val (.ref o26), .val (.int (1 : Int32)), .unset] [(.int (2 : Int32)), (.int (2 : Int32))])) (fun t k => XS.iconst X40.here hx rfl (hb hby at_241) k) ?_
            refine own_via (T40.setTop (mkF m 255 #[.val (.int i0), .val (.int i1), .val (.int i2), .val (.int i3), .val (.int i4), .val (.int (2 : Int32)), .val (.int pp), .val (.int z0), .val (.int z1), .val (.int z2), .val (.int z3), .val (.ref o26), .val (.int (1 : Int32)), .unset] [])) (fun t k => XS.icmpYes X40.here hx rfl (pc0 := 242) (pc' := 255) rfl (hb hby at_242) rfl (by decide) (by decide) (by decide) k) ?_
            refine own_via (T40.setTop (mkF m 257 #[.val (.int i0), .val (.int i1), .val (.int i2), .val (.int i3), .val (.int i4), .val (.int (2 : Int32)), .val (.int pp), .val (.int z0), .val (.int z1), .val (.int z2), .val (.int z3), .val (.ref o26), .val (.int (1 : Int32)), .unset] [(.int (2 : Int32))])) (fun t k => XS.iload X40.here hx rfl (hb hby at_255) rfl k) ?_
            refine own_via (T40.setTop (mkF m 258 #[.val (.int i0), .val (.int i1), .val (.int i2), .val (.int i3), .val (.int i4), .val (.int (2 : Int32)), .val (.int pp), .val (.int z0), .val (.int z1), .val (.int z2), .val (.int z3), .val (.ref o26), .val (.int (1 : Int32)), .unset] [(.int (3 : Int32)), (.int (2 : Int32))])) (fun t k => XS.iconst X40.here hx rfl (hb hby at_257) k) ?_
            refine own_via (T40.setTop (mkF m 271 #[.val (.int i0), .val (.int i1), .val (.int i2), .val (.int i3), .val (.int i4), .val (.int (2 : Int32)), .val (.int pp), .val (.int z0), .val (.int z1), .val (.int z2), .val (.int z3), .val (.ref o26), .val (.int (1 : Int32)), .unset] [])) (fun t k => XS.icmpYes X40.here hx rfl (pc0 := 258) (pc' := 271) rfl (hb hby at_258) rfl (by decide) (by decide) (by decide) k) ?_
            exact J1 q1
          · refine own_via (T40.setTop (mkF m 239 #[.val (.int i0), .val (.int i1), .val (.int i2), .val (.int i3), .val (.int i4), .val (.int (2 : Int32)), .val (.int pp), .val (.int z0), .val (.int z1), .val (.int z2), .val (.int z3), .val (.ref o26), .val (.int (-1 : Int32)), .unset] [])) (fun t k => XS.icmpYes X40.here hx rfl (pc0 := 233) (pc' := 239) rfl (hb hby at_233) rfl (XT.ii_ne_t q1) (by decide) (by decide) k) ?_
            refine own_via (T40.setTop (mkF m 241 #[.val (.int i0), .val (.int i1), .val (.int i2), .val (.int i3), .val (.int i4), .val (.int (2 : Int32)), .val (.int pp), .val (.int z0), .val (.int z1), .val (.int z2), .val (.int z3), .val (.ref o26), .val (.int (-1 : Int32)), .unset] [(.int (2 : Int32))])) (fun t k => XS.iload X40.here hx rfl (hb hby at_239) rfl k) ?_
            refine own_via (T40.setTop (mkF m 242 #[.val (.int i0), .val (.int i1), .val (.int i2), .val (.int i3), .val (.int i4), .val (.int (2 : Int32)), .val (.int pp), .val (.int z0), .val (.int z1), .val (.int z2), .val (.int z3), .val (.ref o26), .val (.int (-1 : Int32)), .unset] [(.int (2 : Int32)), (.int (2 : Int32))])) (fun t k => XS.iconst X40.here hx rfl (hb hby at_241) k) ?_
            refine own_via (T40.setTop (mkF m 255 #[.val (.int i0), .val (.int i1), .val (.int i2), .val (.int i3), .val (.int i4), .val (.int (2 : Int32)), .val (.int pp), .val (.int z0), .val (.int z1), .val (.int z2), .val (.int z3), .val (.ref o26), .val (.int (-1 : Int32)), .unset] [])) (fun t k => XS.icmpYes X40.here hx rfl (pc0 := 242) (pc' := 255) rfl (hb hby at_242) rfl (by decide) (by decide) (by decide) k) ?_
            refine own_via (T40.setTop (mkF m 257 #[.val (.int i0), .val (.int i1), .val (.int i2), .val (.int i3), .val (.int i4), .val (.int (2 : Int32)), .val (.int pp), .val (.int z0), .val (.int z1), .val (.int z2), .val (.int z3), .val (.ref o26), .val (.int (-1 : Int32)), .unset] [(.int (2 : Int32))])) (fun t k => XS.iload X40.here hx rfl (hb hby at_255) rfl k) ?_
            refine own_via (T40.setTop (mkF m 258 #[.val (.int i0), .val (.int i1), .val (.int i2), .val (.int i3), .val (.int i4), .val (.int (2 : Int32)), .val (.int pp), .val (.int z0), .val (.int z1), .val (.int z2), .val (.int z3), .val (.ref o26), .val (.int (-1 : Int32)), .unset] [(.int (3 : Int32)), (.int (2 : Int32))])) (fun t k => XS.iconst X40.here hx rfl (hb hby at_257) k) ?_
            refine own_via (T40.setTop (mkF m 271 #[.val (.int i0), .val (.int i1), .val (.int i2), .val (.int i3), .val (.int i4), .val (.int (2 : Int32)), .val (.int pp), .val (.int z0), .val (.int z1), .val (.int z2), .val (.int z3), .val (.ref o26), .val (.int (-1 : Int32)), .unset] [])) (fun t k => XS.icmpYes X40.here hx rfl (pc0 := 258) (pc' := 271) rfl (hb hby at_258) rfl (by decide) (by decide) (by decide) k) ?_
            exact absurd hcol (by simp [own_has, q0, q1])
      · by_cases hn3 : nn = 3
        · have hn := hn3
          subst hn
          refine own_via (T4.setTop (mkF m 87 #[.val (.int i0), .val (.int i1), .val (.int i2), .val (.int i3), .val (.int i4), .val (.int (3 : Int32)), .val (.int pp), .val (.int z0), .val (.int z1), .val (.int z2), .val (.int z3), .unset, .unset, .unset] [(.int (3 : Int32))])) (fun t k => XS.iload X4.here hx rfl (hb hby at_85) rfl k) ?_
          refine own_via (T4.setTop (mkF m 88 #[.val (.int i0), .val (.int i1), .val (.int i2), .val (.int i3), .val (.int i4), .val (.int (3 : Int32)), .val (.int pp), .val (.int z0), .val (.int z1), .val (.int z2), .val (.int z3), .unset, .unset, .unset] [(.int (1 : Int32)), (.int (3 : Int32))])) (fun t k => XS.iconst X4.here hx rfl (hb hby at_87) k) ?_
          refine own_via (T4.setTop (mkF m 111 #[.val (.int i0), .val (.int i1), .val (.int i2), .val (.int i3), .val (.int i4), .val (.int (3 : Int32)), .val (.int pp), .val (.int z0), .val (.int z1), .val (.int z2), .val (.int z3), .unset, .unset, .unset] [])) (fun t k => XS.icmpYes X4.here hx rfl (pc0 := 88) (pc' := 111) rfl (hb hby at_88) rfl (by decide) (by decide) (by decide) k) ?_
          refine own_via (T4.setTop (mkF m 113 #[.val (.int i0), .val (.int i1), .val (.int i2), .val (.int i3), .val (.int i4), .val (.int (3 : Int32)), .val (.int pp), .val (.int z0), .val (.int z1), .val (.int z2), .val (.int z3), .unset, .unset, .unset] [(.int (3 : Int32))])) (fun t k => XS.iload X4.here hx rfl (hb hby at_111) rfl k) ?_
          refine own_via (T4.setTop (mkF m 114 #[.val (.int i0), .val (.int i1), .val (.int i2), .val (.int i3), .val (.int i4), .val (.int (3 : Int32)), .val (.int pp), .val (.int z0), .val (.int z1), .val (.int z2), .val (.int z3), .unset, .unset, .unset] [(.int (2 : Int32)), (.int (3 : Int32))])) (fun t k => XS.iconst X4.here hx rfl (hb hby at_113) k) ?_
          refine own_via (T4.setTop (mkF m 142 #[.val (.int i0), .val (.int i1), .val (.int i2), .val (.int i3), .val (.int i4), .val (.int (3 : Int32)), .val (.int pp), .val (.int z0), .val (.int z1), .val (.int z2), .val (.int z3), .unset, .unset, .unset] [])) (fun t k => XS.icmpYes X4.here hx rfl (pc0 := 114) (pc' := 142) rfl (hb hby at_114) rfl (by decide) (by decide) (by decide) k) ?_
          refine own_via (T4.setTop (mkF m 144 #[.val (.int i0), .val (.int i1), .val (.int i2), .val (.int i3), .val (.int i4), .val (.int (3 : Int32)), .val (.int pp), .val (.int z0), .val (.int z1), .val (.int z2), .val (.int z3), .unset, .unset, .unset] [(.int (3 : Int32))])) (fun t k => XS.iload X4.here hx rfl (hb hby at_142) rfl k) ?_
          refine own_via (T4.setTop (mkF m 145 #[.val (.int i0), .val (.int i1), .val (.int i2), .val (.int i3), .val (.int i4), .val (.int (3 : Int32)), .val (.int pp), .val (.int z0), .val (.int z1), .val (.int z2), .val (.int z3), .unset, .unset, .unset] [(.int (3 : Int32)), (.int (3 : Int32))])) (fun t k => XS.iconst X4.here hx rfl (hb hby at_144) k) ?_
          refine own_via (T4.setTop (mkF m 148 #[.val (.int i0), .val (.int i1), .val (.int i2), .val (.int i3), .val (.int i4), .val (.int (3 : Int32)), .val (.int pp), .val (.int z0), .val (.int z1), .val (.int z2), .val (.int z3), .unset, .unset, .unset] [])) (fun t k => XS.icmpNo X4.here hx rfl (hb hby at_145) rfl (by decide) k) ?_
          obtain ⟨T64, h64, X64, e64, E64, A64, D64, U64, st64⟩ := newO X4 hx hZ hown (hw _ (List.mem_of_getElem? (i := 4) rfl)) (hw _ (List.mem_of_getElem? (i := 5) rfl)) (hw _ (List.mem_of_getElem? (i := 6) rfl)) e4 (g := (mkF m 148 #[.val (.int i0), .val (.int i1), .val (.int i2), .val (.int i3), .val (.int i4), .val (.int (3 : Int32)), .val (.int pp), .val (.int z0), .val (.int z1), .val (.int z2), .val (.int z3), .unset, .unset, .unset] [])) rfl (hb hby at_148) (by decide) (by decide)
          obtain ⟨o64, g64⟩ : ∃ z, z = h0.size := ⟨_, rfl⟩
          rw [← g64] at A64 D64 U64 st64
          have sz_h64 : h0.size ≤ h64.size := E64.1
          have B_h64 : CHr Z own_EL s.vm h0 s.vm h64 := CHr.ext E64 C0.1
          have C_h64 : CHr Z own_EL s.vm h0 s.vm h64 := C0.trans B_h64
          have sf_o64_h64 : Safe Z own_EL s.vm h64 o64 := Safe.ext E64 C0.1 (Safe.new (Nat.le_of_eq g64.symm))
          have lt_o64 : @LT.lt Nat _ o64 h64.size := A64.lt
          refine own_via (T64.setTop (mkF m 151 #[.val (.int i0), .val (.int i1), .val (.int i2), .val (.int i3), .val (.int i4), .val (.int (3 : Int32)), .val (.int pp), .val (.int z0), .val (.int z1), .val (.int z2), .val (.int z3), .unset, .unset, .unset] [(.ref o64)])) (st64) ?_
          refine own_via (T64.setTop (mkF m 152 #[.val (.int i0), .val (.int i1), .val (.int i2), .val (.int i3), .val (.int i4), .val (.int (3 : Int32)), .val (.int pp), .val (.int z0), .val (.int z1), .val (.int z2), .val (.int z3), .unset, .unset, .unset] [(.ref o64), (.ref o64)])) (fun t k => XS.dup X64.here hx rfl (hb hby at_151) rfl rfl k) ?_
          refine own_via (T64.setTop (mkF m 153 #[.val (.int i0), .val (.int i1), .val (.int i2), .val (.int i3), .val (.int i4), .val (.int (3 : Int32)), .val (.int pp), .val (.int z0), .val (.int z1), .val (.int z2), .val (.int z3), .unset, .unset, .unset] [(.int (3 : Int32)), (.ref o64), (.ref o64)])) (fun t k => XS.iconst X64.here hx rfl (hb hby at_152) k) ?_
          obtain ⟨T65, h65, k65, X65, e65, E65, A65, st65⟩ := newP X64 hx hZ (hw _ (List.mem_of_getElem? (i := 7) rfl)) e64 (g := (mkF m 153 #[.val (.int i0), .val (.int i1), .val (.int i2), .val (.int i3), .val (.int i4), .val (.int (3 : Int32)), .val (.int pp), .val (.int z0), .val (.int z1), .val (.int z2), .val (.int z3), .unset, .unset, .unset] [(.int (3 : Int32)), (.ref o64), (.ref o64)])) rfl (hb hby at_153) rfl (by decide) (cap := 3) (by decide) (by decide) (by decide) (by decide)
          obtain ⟨o65, g65⟩ : ∃ z, z = h64.size := ⟨_, rfl⟩
          rw [← g65] at A65 st65
          have sz_h65 : h64.size ≤ h65.size := E65.1
          have B_h65 : CHr Z own_EL s.vm h64 s.vm h65 := CHr.ext E65 C_h64.1
          have C_h65 : CHr Z own_EL s.vm h0 s.vm h65 := C_h64.trans B_h65
          have sf_o64_h65 : Safe Z own_EL s.vm h65 o64 := B_h65.safe (show @LT.lt Nat _ _ _ by omega) sf_o64_h64
          have sf_o65_h65 : Safe Z own_EL s.vm h65 o65 := Safe.ext E65 C_h64.1 (Safe.new (Nat.le_of_eq g65.symm))
          have V65 : Arv Z h65 o65 k65 .char (3 : Int32) [] (.int (0 : Int32)) := Arv.new A65 (by decide)
          have lt_o65 : @LT.lt Nat _ o65 h65.size := V65.lt
          refine own_via (T65.setTop (mkF m 155 #[.val (.int i0), .val (.int i1), .val (.int i2), .val (.int i3), .val (.int i4), .val (.int (3 : Int32)), .val (.int pp), .val (.int z0), .val (.int z1), .val (.int z2), .val (.int z3), .unset, .unset, .unset] [(.ref o65), (.ref o64), (.ref o64)])) (st65) ?_
          refine own_via (T65.setTop (mkF m 156 #[.val (.int i0), .val (.int i1), .val (.int i2), .val (.int i3), .val (.int i4), .val (.int (3 : Int32)), .val (.int pp), .val (.int z0), .val (.int z1), .val (.int z2), .val (.int z3), .unset, .unset, .unset] [(.ref o65), (.ref o65), (.ref o64), (.ref o64)])) (fun t k => XS.dup X65.here hx rfl (hb hby at_155) rfl rfl k) ?_
          refine own_via (T65.setTop (mkF m 157 #[.val (.int i0), .val (.int i1), .val (.int i2), .val (.int i3), .val (.int i4), .val (.int (3 : Int32)), .val (.int pp), .val (.int z0), .val (.int z1), .val (.int z2), .val (.int z3), .unset, .unset, .unset] [(.int (0 : Int32)), (.ref o65), (.ref o65), (.ref o64), (.ref o64)])) (fun t k => XS.iconst X65.here hx rfl (hb hby at_156) k) ?_
          refine own_via (T65.setTop (mkF m 159 #[.val (.int i0), .val (.int i1), .val (.int i2), .val (.int i3), .val (.int i4), .val (.int (3 : Int32)), .val (.int pp), .val (.int z0), .val (.int z1), .val (.int z2), .val (.int z3), .unset, .unset, .unset] [(.int z0), (.int (0 : Int32)), (.ref o65), (.ref o65), (.ref o64), (.ref o64)])) (fun t k => XS.iload X65.here hx rfl (hb hby at_157) rfl k) ?_
          have V66 : Arv Z h65 o65 k65 .char (3 : Int32) [(.int (0 : Int32))] (.int (0 : Int32)) := V65.pad (pad_rep [] (.int (0 : Int32)) 1)
          obtain ⟨c67, A67, q67, S67, M67, H67, U67⟩ := id V66
          obtain ⟨T68, h68, X68, e68, W68, st68⟩ := stC X65 hx hZ e65 A67 (j := (0 : Int32)) (inb_of S67 ⟨(by decide), (by decide)⟩) (g := (mkF m 159 #[.val (.int i0), .val (.int i1), .val (.int i2), .val (.int i3), .val (.int i4), .val (.int (3 : Int32)), .val (.int pp), .val (.int z0), .val (.int z1), .val (.int z2), .val (.int z3), .unset, .unset, .unset] [(.int z0), (.int (0 : Int32)), (.ref o65), (.ref o65), (.ref o64), (.ref o64)])) rfl rfl (hb hby at_159)
          have N68 := Fr.snoc X68 N4 (show @LE.le Nat _ _ _ by omega)
          have sz_h68 : h68.size = h65.size := Wr.size W68
          have B_h68 : CHr Z own_EL s.vm h65 s.vm h68 := CHr.wr W68 sf_o65_h65 C_h65.1
          have C_h68 : CHr Z own_EL s.vm h0 s.vm h68 := C_h65.trans B_h68
          have sf_o64_h68 : Safe Z own_EL s.vm h68 o64 := B_h68.safe (show @LT.lt Nat _ _ _ by omega) sf_o64_h65
          have sf_o65_h68 : Safe Z own_EL s.vm h68 o65 := B_h68.safe (show @LT.lt Nat _ _ _ by omega) sf_o65_h65
          have f69 : Arv Z h68 o65 k65 .char (3 : Int32) [(.int (nar .char z0))] (.int (0 : Int32)) := Arv.set A67 q67 S67 M67 H67 U67 (fits_nar_char _) W68 0 rfl (Nat.le_of_ble_eq_true rfl)
          rw [own_narc r0] at f69
          refine own_via (T68.setTop (mkF m 160 #[.val (.int i0), .val (.int i1), .val (.int i2), .val (.int i3), .val (.int i4), .val (.int (3 : Int32)), .val (.int pp), .val (.int z0), .val (.int z1), .val (.int z2), .val (.int z3), .unset, .unset, .unset] [(.ref o65), (.ref o64), (.ref o64)])) (st68) ?_
          refine own_via (T68.setTop (mkF m 161 #[.val (.int i0), .val (.int i1), .val (.int i2), .val (.int i3), .val (.int i4), .val (.int (3 : Int32)), .val (.int pp), .val (.int z0), .val (.int z1), .val (.int z2), .val (.int z3), .unset, .unset, .unset] [(.ref o65), (.ref o65), (.ref o64), (.ref o64)])) (fun t k => XS.dup X68.here hx rfl (hb hby at_160) rfl rfl k) ?_
          refine own_via (T68.setTop (mkF m 162 #[.val (.int i0), .val (.int i1), .val (.int i2), .val (.int i3), .val (.int i4), .val (.int (3 : Int32)), .val (.int pp), .val (.int z0), .val (.int z1), .val (.int z2), .val (.int z3), .unset, .unset, .unset] [(.int (1 : Int32)), (.ref o65), (.ref o65), (.ref o64), (.ref o64)])) (fun t k => XS.iconst X68.here hx rfl (hb hby at_161) k) ?_
          refine own_via (T68.setTop (mkF m 164 #[.val (.int i0), .val (.int i1), .val (.int i2), .val (.int i3), .val (.int i4), .val (.int (3 : Int32)), .val (.int pp), .val (.int z0), .val (.int z1), .val (.int z2), .val (.int z3), .unset, .unset, .unset] [(.int z1), (.int (1 : Int32)), (.ref o65), (.ref o65), (.ref o64), (.ref o64)])) (fun t k => XS.iload X68.here hx rfl (hb hby at_162) rfl k) ?_
          have V70 : Arv Z h68 o65 k65 .char (3 : Int32) [(.int z0), (.int (0 : Int32))] (.int (0 : Int32)) := f69.pad (pad_rep [(.int z0)] (.int (0 : Int32)) 1)
          obtain ⟨c71, A71, q71, S71, M71, H71, U71⟩ := id V70
          obtain ⟨T72, h72, X72, e72, W72, st72⟩ := stC X68 hx hZ e68 A71 (j := (1 : Int32)) (inb_of S71 ⟨(by decide), (by decide)⟩) (g := (mkF m 164 #[.val (.int i0), .val (.int i1), .val (.int i2), .val (.int i3), .val (.int i4), .val (.int (3 : Int32)), .val (.int pp), .val (.int z0), .val (.int z1), .val (.int z2), .val (.int z3), .unset, .unset, .unset] [(.int z1), (.int (1 : Int32)), (.ref o65), (.ref o65), (.ref o64), (.ref o64)])) rfl rfl (hb hby at_164)
          have N72 := Fr.snoc X72 N68 (show @LE.le Nat _ _ _ by omega)
          have sz_h72 : h72.size = h68.size := Wr.size W72
          have B_h72 : CHr Z own_EL s.vm h68 s.vm h72 := CHr.wr W72 sf_o65_h68 C_h68.1
          have C_h72 : CHr Z own_EL s.vm h0 s.vm h72 := C_h68.trans B_h72
          have sf_o64_h72 : Safe Z own_EL s.vm h72 o64 := B_h72.safe (show @LT.lt Nat _ _ _ by omega) sf_o64_h68
          have sf_o65_h72 : Safe Z own_EL s.vm h72 o65 := B_h72.safe (show @LT.lt Nat _ _ _ by omega) sf_o65_h68
          have f73 : Arv Z h72 o65 k65 .char (3 : Int32) [(.int z0), (.int (nar .char z1))] (.int (0 : Int32)) := Arv.set A71 q71 S71 M71 H71 U71 (fits_nar_char _) W72 1 rfl (Nat.le_of_ble_eq_true rfl)
          rw [own_narc r1] at f73
          refine own_via (T72.setTop (mkF m 165 #[.val (.int i0), .val (.int i1), .val (.int i2), .val (.int i3), .val (.int i4), .val (.int (3 : Int32)), .val (.int pp), .val (.int z0), .val (.int z1), .val (.int z2), .val (.int z3), .unset, .unset, .unset] [(.ref o65), (.ref o64), (.ref o64)])) (st72) ?_
          refine own_via (T72.setTop (mkF m 166 #[.val (.int i0), .val (.int i1), .val (.int i2), .val (.int i3), .val (.int i4), .val (.int (3 : Int32)), .val (.int pp), .val (.int z0), .val (.int z1), .val (.int z2), .val (.int z3), .unset, .unset, .unset] [(.ref o65), (.ref o65), (.ref o64), (.ref o64)])) (fun t k => XS.dup X72.here hx rfl (hb hby at_165) rfl rfl k) ?_
          refine own_via (T72.setTop (mkF m 167 #[.val (.int i0), .val (.int i1), .val (.int i2), .val (.int i3), .val (.int i4), .val (.int (3 : Int32)), .val (.int pp), .val (.int z0), .val (.int z1), .val (.int z2), .val (.int z3), .unset, .unset, .unset] [(.int (2 : Int32)), (.ref o65), (.ref o65), (.ref o64), (.ref o64)])) (fun t k => XS.iconst X72.here hx rfl (hb hby at_166) k) ?_
          refine own_via (T72.setTop (mkF m 169 #[.val (.int i0), .val (.int i1), .val (.int i2), .val (.int i3), .val (.int i4), .val (.int (3 : Int32)), .val (.int pp), .val (.int z0), .val (.int z1), .val (.int z2), .val (.int z3), .unset, .unset, .unset] [(.int z2), (.int (2 : Int32)), (.ref o65), (.ref o65), (.ref o64), (.ref o64)])) (fun t k => XS.iload X72.here hx rfl (hb hby at_167) rfl k) ?_
          have V74 : Arv Z h72 o65 k65 .char (3 : Int32) [(.int z0), (.int z1), (.int (0 : Int32))] (.int (0 : Int32)) := f73.pad (pad_rep [(.int z0), (.int z1)] (.int (0 : Int32)) 1)
          obtain ⟨c75, A75, q75, S75, M75, H75, U75⟩ := id V74
          obtain ⟨T76, h76, X76, e76, W76, st76⟩ := stC X72 hx hZ e72 A75 (j := (2 : Int32)) (inb_of S75 ⟨(by decide), (by decide)⟩) (g := (mkF m 169 #[.val (.int i0), .val (.int i1), .val (.int i2), .val (.int i3), .val (.int i4), .val (.int (3 : Int32)), .val (.int pp), .val (.int z0), .val (.int z1), .val (.int z2), .val (.int z3), .unset, .unset, .unset] [(.int z2), (.int (2 : Int32)), (.ref o65), (.ref o65), (.ref o64), (.ref o64)])) rfl rfl (hb hby at_169)
          have N76 := Fr.snoc X76 N72 (show @LE.le Nat _ _ _ by omega)
          have sz_h76 : h76.size = h72.size := Wr.size W76
          have B_h76 : CHr Z own_EL s.vm h72 s.vm h76 := CHr.wr W76 sf_o65_h72 C_h72.1
          have C_h76 : CHr Z own_EL s.vm h0 s.vm h76 := C_h72.trans B_h76
          have sf_o64_h76 : Safe Z own_EL s.vm h76 o64 := B_h76.safe (show @LT.lt Nat _ _ _ by omega) sf_o64_h72
          have sf_o65_h76 : Safe Z own_EL s.vm h76 o65 := B_h76.safe (show @LT.lt Nat _ _ _ by omega) sf_o65_h72
          have f77 : Arv Z h76 o65 k65 .char (3 : Int32) [(.int z0), (.int z1), (.int (nar .char z2))] (.int (0 : Int32)) := Arv.set A75 q75 S75 M75 H75 U75 (fits_nar_char _) W76 2 rfl (Nat.le_of_ble_eq_true rfl)
          rw [own_narc r2] at f77
          refine own_via (T76.setTop (mkF m 170 #[.val (.int i0), .val (.int i1), .val (.int i2), .val (.int i3), .val (.int i4), .val (.int (3 : Int32)), .val (.int pp), .val (.int z0), .val (.int z1), .val (.int z2), .val (.int z3), .unset, .unset, .unset] [(.ref o65), (.ref o64), (.ref o64)])) (st76) ?_
          have hp : ∀ c ∈ ([z0, z1, z2] : List Int32), ¬ c < 0 ∧ ¬ (255 : Int32) < c := by
            intro c hc
            simp only [List.mem_cons, List.not_mem_nil, or_false] at hc
            rcases hc with rfl | rfl | rfl
            · exact r0
            · exact r1
            · exact r2
          have f78 : Exa Z h76 o64 "java/lang/String" := ((((A64.ext E65).wr W68).wr W72).wr W76)
          have f79 : Fld Z h76 o64 "java/lang/String" "value" "[B" .null := (((((D64 (Or.inr (hw _ (List.mem_of_getElem? (i := 33) rfl))) (ty := (.array .byte)) (by decide)).ext E65).other W68 (Or.inl (show @Ne Nat _ _ by omega))).other W72 (Or.inl (show @Ne Nat _ _ by omega))).other W76 (Or.inl (show @Ne Nat _ _ by omega)))
          have f80 : Fld Z h76 o64 "java/lang/String" "coder" "B" (.int (0 : Int32)) := (((((D64 (Or.inr (hw _ (List.mem_of_getElem? (i := 31) rfl))) (ty := .byte) (by decide)).ext E65).other W68 (Or.inl (show @Ne Nat _ _ by omega))).other W72 (Or.inl (show @Ne Nat _ _ by omega))).other W76 (Or.inl (show @Ne Nat _ _ by omega)))
          have f81 : Old Z n0 h76 := (((((pf2.ext E64).ext E65).wr W68 (show @LE.le Nat _ _ _ by omega)).wr W72 (show @LE.le Nat _ _ _ by omega)).wr W76 (show @LE.le Nat _ _ _ by omega))
          obtain ⟨v82, T82, h82, L82, X82, e82, q82, st82⟩ := own_cI X76 hx hZ hown (hw _ (List.mem_of_getElem? (i := 8) rfl)) (hw _ (List.mem_of_getElem? (i := 9) rfl)) (hw _ (List.mem_of_getElem? (i := 10) rfl)) rfl (by decide) (W := 1) (StrChars.Road.backV hZ (own_hws hw) (kI := 4) (hw _ (List.mem_of_getElem? (i := 5) rfl)) (cs := ([z0, z1, z2] : List Int32)) (bs := (([z0, z1, z2] : List Int32)).map (fun c => c.toInt8.toInt32)) (n := 3) (n0 := n0) (by omega) (by omega) f78 f79 f80 f77 (pf0.ext f81.2) hG1 rfl rfl (by decide) (by decide) hp rfl (by decide) (by decide)) e76 (a := o64) (Ls := #[.val (.int i0), .val (.int i1), .val (.int i2), .val (.int i3), .val (.int i4), .val (.int (3 : Int32)), .val (.int pp), .val (.int z0), .val (.int z1), .val (.int z2), .val (.int z3), .unset, .unset, .unset]) (by rw [hml]; rfl) (argsL := [(.ref o65)]) (rest := [(.ref o64)]) rfl (lenOf own_pd95987610 rfl) rfl (Nat.le_of_eq rfl) (hb hby at_170) (by decide) (by decide)
          obtain ⟨rfl, Nq82, Kq82, fE82, fC82, t82, kb82, u82, w82, n82, fV82, fA82⟩ := q82
          have N82 := Fr.app N76 Nq82
          have sz_h82 : h76.size ≤ h82.size := Kq82.1
          have B_h82 : CHr Z own_EL s.vm h76 s.vm h82 := CHr.keep Kq82 (sfS sf_o64_h76 sf0) C_h76.1
          have C_h82 : CHr Z own_EL s.vm h0 s.vm h82 := C_h76.trans B_h82
          have sf_o64_h82 : Safe Z own_EL s.vm h82 o64 := B_h82.safe (show @LT.lt Nat _ _ _ by omega) sf_o64_h76
          have sf_o65_h82 : Safe Z own_EL s.vm h82 o65 := B_h82.safe (show @LT.lt Nat _ _ _ by omega) sf_o65_h76
          have lt_t82 : @LT.lt Nat _ t82 h82.size := fA82.lt
          refine own_via (T82.setTop (mkF m 173 #[.val (.int i0), .val (.int i1), .val (.int i2), .val (.int i3), .val (.int i4), .val (.int (3 : Int32)), .val (.int pp), .val (.int z0), .val (.int z1), .val (.int z2), .val (.int z3), .unset, .unset, .unset] [(.ref o64)])) (st82) ?_
          refine own_via (T82.setTop (mkF m 175 #[.val (.int i0), .val (.int i1), .val (.int i2), .val (.int i3), .val (.int i4), .val (.int (3 : Int32)), .val (.int pp), .val (.int z0), .val (.int z1), .val (.int z2), .val (.int z3), .val (.ref o64), .unset, .unset] [])) (fun t k => XS.astore X82.here hx rfl (hb hby at_173) rfl rfl (l' := #[.val (.int i0), .val (.int i1), .val (.int i2), .val (.int i3), .val (.int i4), .val (.int (3 : Int32)), .val (.int pp), .val (.int z0), .val (.int z1), .val (.int z2), .val (.int z3), .val (.ref o64), .unset, .unset]) rfl k) ?_
          refine own_via (T82.setTop (mkF m 210 #[.val (.int i0), .val (.int i1), .val (.int i2), .val (.int i3), .val (.int i4), .val (.int (3 : Int32)), .val (.int pp), .val (.int z0), .val (.int z1), .val (.int z2), .val (.int z3), .val (.ref o64), .unset, .unset] [])) (fun t k => XS.goto X82.here hx rfl (pc0 := 175) (pc' := 210) rfl (hb hby at_175) (by decide) (by decide) k) ?_
          refine own_via (T82.setTop (mkF m 211 #[.val (.int i0), .val (.int i1), .val (.int i2), .val (.int i3), .val (.int i4), .val (.int (3 : Int32)), .val (.int pp), .val (.int z0), .val (.int z1), .val (.int z2), .val (.int z3), .val (.ref o64), .unset, .unset] [(.int (-1 : Int32))])) (fun t k => XS.iconst X82.here hx rfl (hb hby at_210) k) ?_
          refine own_via (T82.setTop (mkF m 213 #[.val (.int i0), .val (.int i1), .val (.int i2), .val (.int i3), .val (.int i4), .val (.int (3 : Int32)), .val (.int pp), .val (.int z0), .val (.int z1), .val (.int z2), .val (.int z3), .val (.ref o64), .val (.int (-1 : Int32)), .unset] [])) (fun t k => XS.istore X82.here hx rfl (hb hby at_211) rfl (l' := #[.val (.int i0), .val (.int i1), .val (.int i2), .val (.int i3), .val (.int i4), .val (.int (3 : Int32)), .val (.int pp), .val (.int z0), .val (.int z1), .val (.int z2), .val (.int z3), .val (.ref o64), .val (.int (-1 : Int32)), .unset]) rfl k) ?_
          refine own_via (T82.setTop (mkF m 215 #[.val (.int i0), .val (.int i1), .val (.int i2), .val (.int i3), .val (.int i4), .val (.int (3 : Int32)), .val (.int pp), .val (.int z0), .val (.int z1), .val (.int z2), .val (.int z3), .val (.ref o64), .val (.int (-1 : Int32)), .unset] [(.int z0)])) (fun t k => XS.iload X82.here hx rfl (hb hby at_213) rfl k) ?_
          refine own_via (T82.setTop (mkF m 217 #[.val (.int i0), .val (.int i1), .val (.int i2), .val (.int i3), .val (.int i4), .val (.int (3 : Int32)), .val (.int pp), .val (.int z0), .val (.int z1), .val (.int z2), .val (.int z3), .val (.ref o64), .val (.int (-1 : Int32)), .unset] [(.int (58 : Int32)), (.int z0)])) (fun t k => XS.bipush X82.here hx rfl (hb hby at_215) k) ?_
          have J0 :  (z0 = 58) → (¬ z1 = 58) → (¬ z2 = 58) → own_Ends p.tables e below (own_PostH Z own_EL s h0 (Q_rm_law Z i0 i1 i2 i3 i4 G1 fm h0 n0) room_1.cells room_1.slots) (T82.setTop (mkF m 271 #[.val (.int i0), .val (.int i1), .val (.int i2), .val (.int i3), .val (.int i4), .val (.int (3 : Int32)), .val (.int pp), .val (.int z0), .val (.int z1), .val (.int z2), .val (.int z3), .val (.ref o64), .val (.int (0 : Int32)), .unset] [])) := by
            intro q0 q1 q2
            have hli : own_li ([z0, z1, z2] : List Int32) ([z0, z1, z2] : List Int32).length = Int32.ofNat 0 := by
              show (if z2 = 58 then Int32.ofNat 2 else (if z1 = 58 then Int32.ofNat 1 else (if z0 = 58 then Int32.ofNat 0 else -1))) = _
              rw [if_neg q2, if_neg q1, if_pos q0]
            refine own_via (T82.setTop (mkF m 273 #[.val (.int i0), .val (.int i1), .val (.int i2), .val (.int i3), .val (.int i4), .val (.int (3 : Int32)), .val (.int pp), .val (.int z0), .val (.int z1), .val (.int z2), .val (.int z3), .val (.ref o64), .val (.int (0 : Int32)), .unset] [(.ref o64)])) (fun t k => XS.aload X82.here hx rfl (hb hby at_271) rfl rfl k) ?_
            have f83 : Old Z n0 h82 := (f81.keep Kq82 (allS (show @LE.le Nat _ _ _ by omega) all0))
            obtain ⟨v84, T84, h84, L84, X84, e84, q84, hS84, hZ84, hown84, C84, st84⟩ := own_cSH X82 hx hZ hown (hw _ (List.mem_of_getElem? (i := 34) rfl)) (hw _ (List.mem_of_getElem? (i := 35) rfl)) (hw _ (List.mem_of_getElem? (i := 36) rfl)) (hw _ (List.mem_of_getElem? (i := 37) rfl)) (by decide) (W := 0) (own_bkH (rm_coZ l Z a0 hw o64 t82 kb82 ([z0, z1, z2] : List Int32) G1 fm h82 n0 (by omega) fE82 fV82 fC82 fA82 pf0 pf1 f83 (Nat.le_of_ble_eq_true rfl) hp hG1 rfm hli (Nat.le_of_ble_eq_true rfl)) hZ (hw _ (List.mem_of_getElem? (i := 37) rfl)) (hw _ (List.mem_of_getElem? (i := 36) rfl)) (by decide) (by decide) (own_EW hw) C_h82.1) e82 hS0 (by omega) (Ls := #[.val (.int i0), .val (.int i1), .val (.int i2), .val (.int i3), .val (.int i4), .val (.int (3 : Int32)), .val (.int pp), .val (.int z0), .val (.int z1), .val (.int z2), .val (.int z3), .val (.ref o64), .val (.int (0 : Int32)), .unset]) (by rw [hml]; rfl) (argsL := [(.ref o64)]) (rest := []) rfl (lenOf own_pd51720142 rfl) rfl (Nat.le_of_eq rfl) (hb hby at_273) (by decide) (by decide)
            have hZ84 : Z.Warmed39 (s.setVm T84.vm).vm := hZ84
            obtain ⟨b_84, tb_84, kc_84, rfl, Nq84, Kq84, f85, f86, f87, f88⟩ := q84
            have N84 := Fr.app N82 Nq84
            have sz_h84 : h82.size ≤ h84.size := Kq84.1
            have C_h84 : CHr Z own_EL s.vm h0 T84.vm h84 := C_h82.trans C84
            have sf_o64_h84 : Safe Z own_EL T84.vm h84 o64 := C84.safe (show @LT.lt Nat _ _ _ by omega) sf_o64_h82
            have sf_o65_h84 : Safe Z own_EL T84.vm h84 o65 := C84.safe (show @LT.lt Nat _ _ _ by omega) sf_o65_h82
            have lt_b_84 : @LT.lt Nat _ b_84 h84.size := f85.lt
            have lt_tb_84 : @LT.lt Nat _ tb_84 h84.size := f88.lt
            refine own_via (T84.setTop (mkF m 276 #[.val (.int i0), .val (.int i1), .val (.int i2), .val (.int i3), .val (.int i4), .val (.int (3 : Int32)), .val (.int pp), .val (.int z0), .val (.int z1), .val (.int z2), .val (.int z3), .val (.ref o64), .val (.int (0 : Int32)), .unset] [(.ref b_84)])) (st84) ?_
            refine own_via (T84.setTop (mkF m 278 #[.val (.int i0), .val (.int i1), .val (.int i2), .val (.int i3), .val (.int i4), .val (.int (3 : Int32)), .val (.int pp), .val (.int z0), .val (.int z1), .val (.int z2), .val (.int z3), .val (.ref o64), .val (.int (0 : Int32)), .val (.ref b_84)] [])) (fun t k => XS.astore X84.here hx rfl (hb hby at_276) rfl rfl (l' := #[.val (.int i0), .val (.int i1), .val (.int i2), .val (.int i3), .val (.int i4), .val (.int (3 : Int32)), .val (.int pp), .val (.int z0), .val (.int z1), .val (.int z2), .val (.int z3), .val (.ref o64), .val (.int (0 : Int32)), .val (.ref b_84)]) rfl k) ?_
            refine own_via (T84.setTop (mkF m 280 #[.val (.int i0), .val (.int i1), .val (.int i2), .val (.int i3), .val (.int i4), .val (.int (3 : Int32)), .val (.int pp), .val (.int z0), .val (.int z1), .val (.int z2), .val (.int z3), .val (.ref o64), .val (.int (0 : Int32)), .val (.ref b_84)] [(.ref b_84)])) (fun t k => XS.aload X84.here hx rfl (hb hby at_278) rfl rfl k) ?_
            refine own_via (T84.setTop (mkF m 283 #[.val (.int i0), .val (.int i1), .val (.int i2), .val (.int i3), .val (.int i4), .val (.int (3 : Int32)), .val (.int pp), .val (.int z0), .val (.int z1), .val (.int z2), .val (.int z3), .val (.ref o64), .val (.int (0 : Int32)), .val (.ref b_84)] [])) (fun t k => XS.ifnullNo X84.here hx rfl (hb hby at_280) rfl k) ?_
            refine own_via (T84.setTop (mkF m 285 #[.val (.int i0), .val (.int i1), .val (.int i2), .val (.int i3), .val (.int i4), .val (.int (3 : Int32)), .val (.int pp), .val (.int z0), .val (.int z1), .val (.int z2), .val (.int z3), .val (.ref o64), .val (.int (0 : Int32)), .val (.ref b_84)] [(.ref b_84)])) (fun t k => XS.aload X84.here hx rfl (hb hby at_283) rfl rfl k) ?_
            have hcd89 := StrChars.Road.codOf (cs := ([] : List Int32)) (n := (([] : List Int32) : List Int32).length) rfl (fun c hc => ((fun c (hc : c ∈ ([] : List Int32)) => (nomatch hc : ¬ c < 0 ∧ ¬ (255 : Int32) < c)) c hc).2)
            have hbd90 : ∀ c ∈ (([] : List Int32) : List Int32), ¬ c < 0 ∧ ¬ (65535 : Int32) < c := fun c hc => own_up ((fun c (hc : c ∈ ([] : List Int32)) => (nomatch hc : ¬ c < 0 ∧ ¬ (255 : Int32) < c)) c hc)
            have f91 : Old Z n0 h84 := (f83.keep Kq84 all0)
            obtain ⟨v92, T92, h92, L92, X92, e92, q92, st92⟩ := own_cV X84 hx hZ84 (y := (⟨"java/lang/String", "length", "()I"⟩ : MethodName)) (z := (⟨"java/lang/String", "length", "()I"⟩ : MethodName)) hown84 (hw _ (List.mem_of_getElem? (i := 93) rfl)) (hw _ (List.mem_of_getElem? (i := 44) rfl)) (notFace_of_selects (args := #[]) (mvT hZ84 (hw _ (List.mem_of_getElem? (i := 46) rfl)))) (hw _ (List.mem_of_getElem? (i := 46) rfl)) (hw _ (List.mem_of_getElem? (i := 45) rfl)) (by decide) (W := 0) (k := 0) (j := 0) (Q := fun v h' L => v = some (.int (Int32.ofNat (([] : List Int32) : List Int32).length)) ∧ L = [] ∧ h' = h84) (StrChars.Road.lenW (cs := ([] : List Int32)) hZ84 (own_hln hw) (kI := 4) (hw _ (List.mem_of_getElem? (i := 5) rfl)) f85 f86 f87 f88 hcd89 hbd90 (pf0.ext f91.2) hG1 (Nat.le_of_ble_eq_true rfl) (by decide) (by decide)) e84 f85 (Ls := #[.val (.int i0), .val (.int i1), .val (.int i2), .val (.int i3), .val (.int i4), .val (.int (3 : Int32)), .val (.int pp), .val (.int z0), .val (.int z1), .val (.int z2), .val (.int z3), .val (.ref o64), .val (.int (0 : Int32)), .val (.ref b_84)]) (by rw [hml]; rfl) (argsL := []) (rest := []) rfl (lenOf own_pd93735326 rfl) rfl (Nat.le_of_eq rfl) (hb hby at_285) (by decide) (by decide)
            obtain ⟨rfl, rfl, eq92⟩ := q92
            replace e92 := e92.trans eq92
            have N92 := Fr.app N84 (Fr.nil n0)
            refine own_via (T92.setTop (mkF m 288 #[.val (.int i0), .val (.int i1), .val (.int i2), .val (.int i3), .val (.int i4), .val (.int (3 : Int32)), .val (.int pp), .val (.int z0), .val (.int z1), .val (.int z2), .val (.int z3), .val (.ref o64), .val (.int (0 : Int32)), .val (.ref b_84)] [(.int (Int32.ofNat (([] : List Int32) : List Int32).length))])) (st92) ?_
            refine own_via (T92.setTop (mkF m 290 #[.val (.int i0), .val (.int i1), .val (.int i2), .val (.int i3), .val (.int i4), .val (.int (3 : Int32)), .val (.int pp), .val (.int z0), .val (.int z1), .val (.int z2), .val (.int z3), .val (.ref o64), .val (.int (0 : Int32)), .val (.ref b_84)] [(.int (0 : Int32)), (.int (Int32.ofNat (([] : List Int32) : List Int32).length))])) (fun t k => XS.iload X92.here hx rfl (hb hby at_288) rfl k) ?_
            refine own_via (T92.setTop (mkF m 295 #[.val (.int i0), .val (.int i1), .val (.int i2), .val (.int i3), .val (.int i4), .val (.int (3 : Int32)), .val (.int pp), .val (.int z0), .val (.int z1), .val (.int z2), .val (.int z3), .val (.ref o64), .val (.int (0 : Int32)), .val (.ref b_84)] [])) (fun t k => XS.icmpYes X92.here hx rfl (pc0 := 290) (pc' := 295) rfl (hb hby at_290) rfl (XT.ii_eq_t rfl) (by decide) (by decide) k) ?_
            refine own_via (T92.setTop (mkF m 297 #[.val (.int i0), .val (.int i1), .val (.int i2), .val (.int i3), .val (.int i4), .val (.int (3 : Int32)), .val (.int pp), .val (.int z0), .val (.int z1), .val (.int z2), .val (.int z3), .val (.ref o64), .val (.int (0 : Int32)), .val (.ref b_84)] [(.int (0 : Int32))])) (fun t k => XS.iload X92.here hx rfl (hb hby at_295) rfl k) ?_
            refine own_via (T92.setTop (mkF m 313 #[.val (.int i0), .val (.int i1), .val (.int i2), .val (.int i3), .val (.int i4), .val (.int (3 : Int32)), .val (.int pp), .val (.int z0), .val (.int z1), .val (.int z2), .val (.int z3), .val (.ref o64), .val (.int (0 : Int32)), .val (.ref b_84)] [])) (fun t k => XS.ifYes X92.here hx rfl (pc0 := 297) (pc' := 313) rfl (hb hby at_297) rfl (by decide) (by decide) (by decide) k) ?_
            refine own_via (T92.setTop (mkF m 315 #[.val (.int i0), .val (.int i1), .val (.int i2), .val (.int i3), .val (.int i4), .val (.int (3 : Int32)), .val (.int pp), .val (.int z0), .val (.int z1), .val (.int z2), .val (.int z3), .val (.ref o64), .val (.int (0 : Int32)), .val (.ref b_84)] [(.int (0 : Int32))])) (fun t k => XS.iload X92.here hx rfl (hb hby at_313) rfl k) ?_
            refine own_via (T92.setTop (mkF m 316 #[.val (.int i0), .val (.int i1), .val (.int i2), .val (.int i3), .val (.int i4), .val (.int (3 : Int32)), .val (.int pp), .val (.int z0), .val (.int z1), .val (.int z2), .val (.int z3), .val (.ref o64), .val (.int (0 : Int32)), .val (.ref b_84)] [(.int (1 : Int32)), (.int (0 : Int32))])) (fun t k => XS.iconst X92.here hx rfl (hb hby at_315) k) ?_
            refine own_via (T92.setTop (mkF m 332 #[.val (.int i0), .val (.int i1), .val (.int i2), .val (.int i3), .val (.int i4), .val (.int (3 : Int32)), .val (.int pp), .val (.int z0), .val (.int z1), .val (.int z2), .val (.int z3), .val (.ref o64), .val (.int (0 : Int32)), .val (.ref b_84)] [])) (fun t k => XS.icmpYes X92.here hx rfl (pc0 := 316) (pc' := 332) rfl (hb hby at_316) rfl (by decide) (by decide) (by decide) k) ?_
            refine own_via (T92.setTop (mkF m 334 #[.val (.int i0), .val (.int i1), .val (.int i2), .val (.int i3), .val (.int i4), .val (.int (3 : Int32)), .val (.int pp), .val (.int z0), .val (.int z1), .val (.int z2), .val (.int z3), .val (.ref o64), .val (.int (0 : Int32)), .val (.ref b_84)] [(.int (0 : Int32))])) (fun t k => XS.iload X92.here hx rfl (hb hby at_332) rfl k) ?_
            refine own_via (T92.setTop (mkF m 335 #[.val (.int i0), .val (.int i1), .val (.int i2), .val (.int i3), .val (.int i4), .val (.int (3 : Int32)), .val (.int pp), .val (.int z0), .val (.int z1), .val (.int z2), .val (.int z3), .val (.ref o64), .val (.int (0 : Int32)), .val (.ref b_84)] [(.int (2 : Int32)), (.int (0 : Int32))])) (fun t k => XS.iconst X92.here hx rfl (hb hby at_334) k) ?_
            refine own_via (T92.setTop (mkF m 351 #[.val (.int i0), .val (.int i1), .val (.int i2), .val (.int i3), .val (.int i4), .val (.int (3 : Int32)), .val (.int pp), .val (.int z0), .val (.int z1), .val (.int z2), .val (.int z3), .val (.ref o64), .val (.int (0 : Int32)), .val (.ref b_84)] [])) (fun t k => XS.icmpYes X92.here hx rfl (pc0 := 335) (pc' := 351) rfl (hb hby at_335) rfl (by decide) (by decide) (by decide) k) ?_
            refine own_via (T92.setTop (mkF m 352 #[.val (.int i0), .val (.int i1), .val (.int i2), .val (.int i3), .val (.int i4), .val (.int (3 : Int32)), .val (.int pp), .val (.int z0), .val (.int z1), .val (.int z2), .val (.int z3), .val (.ref o64), .val (.int (0 : Int32)), .val (.ref b_84)] [(.int (1 : Int32))])) (fun t k => XS.iconst X92.here hx rfl (hb hby at_351) k) ?_
            exact own_leaveH X92 hlk hZ84 (own_EW hw) hS84 (by omega) e92 C_h84 (v := some (.int (nar .boolean (1 : Int32)))) (fun h => by rw [hret] at h; cases h) (⟨rfl, N92⟩) (by decide) (by decide) (fun fs hr => retN X92 hx (t := .boolean) hret (by simp) (hb hby at_352) hr)
          have J1 :  (z1 = 58) → (¬ z2 = 58) → own_Ends p.tables e below (own_PostH Z own_EL s h0 (Q_rm_law Z i0 i1 i2 i3 i4 G1 fm h0 n0) room_1.cells room_1.slots) (T82.setTop (mkF m 271 #[.val (.int i0), .val (.int i1), .val (.int i2), .val (.int i3), .val (.int i4), .val (.int (3 : Int32)), .val (.int pp), .val (.int z0), .val (.int z1), .val (.int z2), .val (.int z3), .val (.ref o64), .val (.int (1 : Int32)), .unset] [])) := by
            intro q1 q2
            have hli : own_li ([z0, z1, z2] : List Int32) ([z0, z1, z2] : List Int32).length = Int32.ofNat 1 := by
              show (if z2 = 58 then Int32.ofNat 2 else (if z1 = 58 then Int32.ofNat 1 else (if z0 = 58 then Int32.ofNat 0 else -1))) = _
              rw [if_neg q2, if_pos q1]
            refine own_via (T82.setTop (mkF m 273 #[.val (.int i0), .val (.int i1), .val (.int i2), .val (.int i3), .val (.int i4), .val (.int (3 : Int32)), .val (.int pp), .val (.int z0), .val (.int z1), .val (.int z2), .val (.int z3), .val (.ref o64), .val (.int (1 : Int32)), .unset] [(.ref o64)])) (fun t k => XS.aload X82.here hx rfl (hb hby at_271) rfl rfl k) ?_
            have f93 : Old Z n0 h82 := (f81.keep Kq82 (allS (show @LE.le Nat _ _ _ by omega) all0))
            obtain ⟨v94, T94, h94, L94, X94, e94, q94, st94⟩ := own_cS X82 hx hZ hown (hw _ (List.mem_of_getElem? (i := 34) rfl)) (hw _ (List.mem_of_getElem? (i := 35) rfl)) (hw _ (List.mem_of_getElem? (i := 36) rfl)) (hw _ (List.mem_of_getElem? (i := 37) rfl)) (by decide) (W := 0) (own_bk (rm_coN l Z a0 hw o64 t82 kb82 ([z0, z1, z2] : List Int32) G1 fm 1 h82 n0 (by omega) fE82 fV82 fC82 fA82 pf0 pf1 f93 (Nat.le_of_ble_eq_true rfl) hp hG1 rfm hli (Nat.le_of_ble_eq_true rfl) (Nat.le_of_ble_eq_true rfl)) hZ (hw _ (List.mem_of_getElem? (i := 37) rfl)) (hw _ (List.mem_of_getElem? (i := 36) rfl)) (by decide) (by decide)) e82 (Ls := #[.val (.int i0), .val (.int i1), .val (.int i2), .val (.int i3), .val (.int i4), .val (.int (3 : Int32)), .val (.int pp), .val (.int z0), .val (.int z1), .val (.int z2), .val (.int z3), .val (.ref o64), .val (.int (1 : Int32)), .unset]) (by rw [hml]; rfl) (argsL := [(.ref o64)]) (rest := []) rfl (lenOf own_pd51720142 rfl) rfl (Nat.le_of_eq rfl) (hb hby at_273) (by decide) (by decide)
            obtain ⟨b_94, tb_94, kc_94, rfl, Nq94, Kq94, f95, f96, f97, f98⟩ := q94
            have N94 := Fr.app N82 Nq94
            have sz_h94 : h82.size ≤ h94.size := Kq94.1
            have B_h94 : CHr Z own_EL s.vm h82 s.vm h94 := CHr.keep Kq94 sf0 C_h82.1
            have C_h94 : CHr Z own_EL s.vm h0 s.vm h94 := C_h82.trans B_h94
            have sf_o64_h94 : Safe Z own_EL s.vm h94 o64 := B_h94.safe (show @LT.lt Nat _ _ _ by omega) sf_o64_h82
            have sf_o65_h94 : Safe Z own_EL s.vm h94 o65 := B_h94.safe (show @LT.lt Nat _ _ _ by omega) sf_o65_h82
            have lt_b_94 : @LT.lt Nat _ b_94 h94.size := f95.lt
            have lt_tb_94 : @LT.lt Nat _ tb_94 h94.size := f98.lt
            refine own_via (T94.setTop (mkF m 276 #[.val (.int i0), .val (.int i1), .val (.int i2), .val (.int i3), .val (.int i4), .val (.int (3 : Int32)), .val (.int pp), .val (.int z0), .val (.int z1), .val (.int z2), .val (.int z3), .val (.ref o64), .val (.int (1 : Int32)), .unset] [(.ref b_94)])) (st94) ?_
            refine own_via (T94.setTop (mkF m 278 #[.val (.int i0), .val (.int i1), .val (.int i2), .val (.int i3), .val (.int i4), .val (.int (3 : Int32)), .val (.int pp), .val (.int z0), .val (.int z1), .val (.int z2), .val (.int z3), .val (.ref o64), .val (.int (1 : Int32)), .val (.ref b_94)] [])) (fun t k => XS.astore X94.here hx rfl (hb hby at_276) rfl rfl (l' := #[.val (.int i0), .val (.int i1), .val (.int i2), .val (.int i3), .val (.int i4), .val (.int (3 : Int32)), .val (.int pp), .val (.int z0), .val (.int z1), .val (.int z2), .val (.int z3), .val (.ref o64), .val (.int (1 : Int32)), .val (.ref b_94)]) rfl k) ?_
            refine own_via (T94.setTop (mkF m 280 #[.val (.int i0), .val (.int i1), .val (.int i2), .val (.int i3), .val (.int i4), .val (.int (3 : Int32)), .val (.int pp), .val (.int z0), .val (.int z1), .val (.int z2), .val (.int z3), .val (.ref o64), .val (.int (1 : Int32)), .val (.ref b_94)] [(.ref b_94)])) (fun t k => XS.aload X94.here hx rfl (hb hby at_278) rfl rfl k) ?_
            refine own_via (T94.setTop (mkF m 283 #[.val (.int i0), .val (.int i1), .val (.int i2), .val (.int i3), .val (.int i4), .val (.int (3 : Int32)), .val (.int pp), .val (.int z0), .val (.int z1), .val (.int z2), .val (.int z3), .val (.ref o64), .val (.int (1 : Int32)), .val (.ref b_94)] [])) (fun t k => XS.ifnullNo X94.here hx rfl (hb hby at_280) rfl k) ?_
            refine own_via (T94.setTop (mkF m 285 #[.val (.int i0), .val (.int i1), .val (.int i2), .val (.int i3), .val (.int i4), .val (.int (3 : Int32)), .val (.int pp), .val (.int z0), .val (.int z1), .val (.int z2), .val (.int z3), .val (.ref o64), .val (.int (1 : Int32)), .val (.ref b_94)] [(.ref b_94)])) (fun t k => XS.aload X94.here hx rfl (hb hby at_283) rfl rfl k) ?_
            have hcd99 := StrChars.Road.codOf (cs := ((([z0, z1, z2] : List Int32).drop 0).take 1)) (n := (((([z0, z1, z2] : List Int32).drop 0).take 1) : List Int32).length) rfl (fun c hc => ((own_hpt hp 0 1) c hc).2)
            have hbd100 : ∀ c ∈ (((([z0, z1, z2] : List Int32).drop 0).take 1) : List Int32), ¬ c < 0 ∧ ¬ (65535 : Int32) < c := fun c hc => own_up ((own_hpt hp 0 1) c hc)
            have f101 : Old Z n0 h94 := (f93.keep Kq94 all0)
            obtain ⟨v102, T102, h102, L102, X102, e102, q102, st102⟩ := own_cV X94 hx hZ (y := (⟨"java/lang/String", "length", "()I"⟩ : MethodName)) (z := (⟨"java/lang/String", "length", "()I"⟩ : MethodName)) hown (hw _ (List.mem_of_getElem? (i := 93) rfl)) (hw _ (List.mem_of_getElem? (i := 44) rfl)) (notFace_of_selects (args := #[]) (mvT hZ (hw _ (List.mem_of_getElem? (i := 46) rfl)))) (hw _ (List.mem_of_getElem? (i := 46) rfl)) (hw _ (List.mem_of_getElem? (i := 45) rfl)) (by decide) (W := 0) (k := 0) (j := 0) (Q := fun v h' L => v = some (.int (Int32.ofNat (((([z0, z1, z2] : List Int32).drop 0).take 1) : List Int32).length)) ∧ L = [] ∧ h' = h94) (StrChars.Road.lenW (cs := ((([z0, z1, z2] : List Int32).drop 0).take 1)) hZ (own_hln hw) (kI := 4) (hw _ (List.mem_of_getElem? (i := 5) rfl)) f95 f96 f97 f98 hcd99 hbd100 (pf0.ext f101.2) hG1 (Nat.le_of_ble_eq_true rfl) (by decide) (by decide)) e94 f95 (Ls := #[.val (.int i0), .val (.int i1), .val (.int i2), .val (.int i3), .val (.int i4), .val (.int (3 : Int32)), .val (.int pp), .val (.int z0), .val (.int z1), .val (.int z2), .val (.int z3), .val (.ref o64), .val (.int (1 : Int32)), .val (.ref b_94)]) (by rw [hml]; rfl) (argsL := []) (rest := []) rfl (lenOf own_pd93735326 rfl) rfl (Nat.le_of_eq rfl) (hb hby at_285) (by decide) (by decide)
            obtain ⟨rfl, rfl, eq102⟩ := q102
            replace e102 := e102.trans eq102
            have N102 := Fr.app N94 (Fr.nil n0)
            refine own_via (T102.setTop (mkF m 288 #[.val (.int i0), .val (.int i1), .val (.int i2), .val (.int i3), .val (.int i4), .val (.int (3 : Int32)), .val (.int pp), .val (.int z0), .val (.int z1), .val (.int z2), .val (.int z3), .val (.ref o64), .val (.int (1 : Int32)), .val (.ref b_94)] [(.int (Int32.ofNat (((([z0, z1, z2] : List Int32).drop 0).take 1) : List Int32).length))])) (st102) ?_
            refine own_via (T102.setTop (mkF m 290 #[.val (.int i0), .val (.int i1), .val (.int i2), .val (.int i3), .val (.int i4), .val (.int (3 : Int32)), .val (.int pp), .val (.int z0), .val (.int z1), .val (.int z2), .val (.int z3), .val (.ref o64), .val (.int (1 : Int32)), .val (.ref b_94)] [(.int (1 : Int32)), (.int (Int32.ofNat (((([z0, z1, z2] : List Int32).drop 0).take 1) : List Int32).length))])) (fun t k => XS.iload X102.here hx rfl (hb hby at_288) rfl k) ?_
            refine own_via (T102.setTop (mkF m 295 #[.val (.int i0), .val (.int i1), .val (.int i2), .val (.int i3), .val (.int i4), .val (.int (3 : Int32)), .val (.int pp), .val (.int z0), .val (.int z1), .val (.int z2), .val (.int z3), .val (.ref o64), .val (.int (1 : Int32)), .val (.ref b_94)] [])) (fun t k => XS.icmpYes X102.here hx rfl (pc0 := 290) (pc' := 295) rfl (hb hby at_290) rfl (XT.ii_eq_t rfl) (by decide) (by decide) k) ?_
            refine own_via (T102.setTop (mkF m 297 #[.val (.int i0), .val (.int i1), .val (.int i2), .val (.int i3), .val (.int i4), .val (.int (3 : Int32)), .val (.int pp), .val (.int z0), .val (.int z1), .val (.int z2), .val (.int z3), .val (.ref o64), .val (.int (1 : Int32)), .val (.ref b_94)] [(.int (1 : Int32))])) (fun t k => XS.iload X102.here hx rfl (hb hby at_295) rfl k) ?_
            refine own_via (T102.setTop (mkF m 300 #[.val (.int i0), .val (.int i1), .val (.int i2), .val (.int i3), .val (.int i4), .val (.int (3 : Int32)), .val (.int pp), .val (.int z0), .val (.int z1), .val (.int z2), .val (.int z3), .val (.ref o64), .val (.int (1 : Int32)), .val (.ref b_94)] [])) (fun t k => XS.ifNo X102.here hx rfl (hb hby at_297) rfl (by decide) k) ?_
            refine own_via (T102.setTop (mkF m 302 #[.val (.int i0), .val (.int i1), .val (.int i2), .val (.int i3), .val (.int i4), .val (.int (3 : Int32)), .val (.int pp), .val (.int z0), .val (.int z1), .val (.int z2), .val (.int z3), .val (.ref o64), .val (.int (1 : Int32)), .val (.ref b_94)] [(.ref b_94)])) (fun t k => XS.aload X102.here hx rfl (hb hby at_300) rfl rfl k) ?_
            refine own_via (T102.setTop (mkF m 303 #[.val (.int i0), .val (.int i1), .val (.int i2), .val (.int i3), .val (.int i4), .val (.int (3 : Int32)), .val (.int pp), .val (.int z0), .val (.int z1), .val (.int z2), .val (.int z3), .val (.ref o64), .val (.int (1 : Int32)), .val (.ref b_94)] [(.int (0 : Int32)), (.ref b_94)])) (fun t k => XS.iconst X102.here hx rfl (hb hby at_302) k) ?_
            have hcd103 := StrChars.Road.codOf (cs := ((([z0, z1, z2] : List Int32).drop 0).take 1)) (n := (((([z0, z1, z2] : List Int32).drop 0).take 1) : List Int32).length) rfl (fun c hc => ((own_hpt hp 0 1) c hc).2)
            have hbd104 : ∀ c ∈ (((([z0, z1, z2] : List Int32).drop 0).take 1) : List Int32), ¬ c < 0 ∧ ¬ (65535 : Int32) < c := fun c hc => own_up ((own_hpt hp 0 1) c hc)
            obtain ⟨v105, T105, h105, L105, X105, e105, q105, st105⟩ := own_cV X102 hx hZ (y := (⟨"java/lang/String", "charAt", "(I)C"⟩ : MethodName)) (z := (⟨"java/lang/String", "charAt", "(I)C"⟩ : MethodName)) hown (hw _ (List.mem_of_getElem? (i := 113) rfl)) (hw _ (List.mem_of_getElem? (i := 114) rfl)) (notFace_of_selects (args := #[]) (mvT hZ (hw _ (List.mem_of_getElem? (i := 116) rfl)))) (hw _ (List.mem_of_getElem? (i := 116) rfl)) (hw _ (List.mem_of_getElem? (i := 115) rfl)) (by decide) (W := 0) (k := 0) (j := 0) (Q := fun v h' L => v = some (.int ((((([z0, z1, z2] : List Int32).drop 0).take 1) : List Int32).getD 0 0)) ∧ L = [] ∧ h' = h94) (StrChars.Road.chN (cs := ((([z0, z1, z2] : List Int32).drop 0).take 1)) hZ (own_hch hw) (kI := 4) (hw _ (List.mem_of_getElem? (i := 5) rfl)) f95 f96 f97 f98 hcd103 hbd104 (pf0.ext f101.2) hG1 (pf1.ext f101.2) rfm (Nat.le_of_ble_eq_true rfl) (i := 0) (Nat.le_of_ble_eq_true rfl) rfl (by decide) (by decide)) e102 f95 (Ls := #[.val (.int i0), .val (.int i1), .val (.int i2), .val (.int i3), .val (.int i4), .val (.int (3 : Int32)), .val (.int pp), .val (.int z0), .val (.int z1), .val (.int z2), .val (.int z3), .val (.ref o64), .val (.int (1 : Int32)), .val (.ref b_94)]) (by rw [hml]; rfl) (argsL := [(.int (0 : Int32))]) (rest := []) rfl (lenOf own_pd55318145 rfl) rfl (Nat.le_of_eq rfl) (hb hby at_303) (by decide) (by decide)
            obtain ⟨rfl, rfl, eq105⟩ := q105
            replace e105 := e105.trans eq105
            have N105 := Fr.app N102 (Fr.nil n0)
            refine own_via (T105.setTop (mkF m 306 #[.val (.int i0), .val (.int i1), .val (.int i2), .val (.int i3), .val (.int i4), .val (.int (3 : Int32)), .val (.int pp), .val (.int z0), .val (.int z1), .val (.int z2), .val (.int z3), .val (.ref o64), .val (.int (1 : Int32)), .val (.ref b_94)] [(.int ((((([z0, z1, z2] : List Int32).drop 0).take 1) : List Int32).getD 0 0))])) (st105) ?_
            refine own_via (T105.setTop (mkF m 308 #[.val (.int i0), .val (.int i1), .val (.int i2), .val (.int i3), .val (.int i4), .val (.int (3 : Int32)), .val (.int pp), .val (.int z0), .val (.int z1), .val (.int z2), .val (.int z3), .val (.ref o64), .val (.int (1 : Int32)), .val (.ref b_94)] [(.int z0), (.int ((((([z0, z1, z2] : List Int32).drop 0).take 1) : List Int32).getD 0 0))])) (fun t k => XS.iload X105.here hx rfl (hb hby at_306) rfl k) ?_
            refine own_via (T105.setTop (mkF m 313 #[.val (.int i0), .val (.int i1), .val (.int i2), .val (.int i3), .val (.int i4), .val (.int (3 : Int32)), .val (.int pp), .val (.int z0), .val (.int z1), .val (.int z2), .val (.int z3), .val (.ref o64), .val (.int (1 : Int32)), .val (.ref b_94)] [])) (fun t k => XS.icmpYes X105.here hx rfl (pc0 := 308) (pc' := 313) rfl (hb hby at_308) rfl (XT.ii_eq_t rfl) (by decide) (by decide) k) ?_
            refine own_via (T105.setTop (mkF m 315 #[.val (.int i0), .val (.int i1), .val (.int i2), .val (.int i3), .val (.int i4), .val (.int (3 : Int32)), .val (.int pp), .val (.int z0), .val (.int z1), .val (.int z2), .val (.int z3), .val (.ref o64), .val (.int (1 : Int32)), .val (.ref b_94)] [(.int (1 : Int32))])) (fun t k => XS.iload X105.here hx rfl (hb hby at_313) rfl k) ?_
            refine own_via (T105.setTop (mkF m 316 #[.val (.int i0), .val (.int i1), .val (.int i2), .val (.int i3), .val (.int i4), .val (.int (3 : Int32)), .val (.int pp), .val (.int z0), .val (.int z1), .val (.int z2), .val (.int z3), .val (.ref o64), .val (.int (1 : Int32)), .val (.ref b_94)] [(.int (1 : Int32)), (.int (1 : Int32))])) (fun t k => XS.iconst X105.here hx rfl (hb hby at_315) k) ?_
            refine own_via (T105.setTop (mkF m 332 #[.val (.int i0), .val (.int i1), .val (.int i2), .val (.int i3), .val (.int i4), .val (.int (3 : Int32)), .val (.int pp), .val (.int z0), .val (.int z1), .val (.int z2), .val (.int z3), .val (.ref o64), .val (.int (1 : Int32)), .val (.ref b_94)] [])) (fun t k => XS.icmpYes X105.here hx rfl (pc0 := 316) (pc' := 332) rfl (hb hby at_316) rfl (by decide) (by decide) (by decide) k) ?_
            refine own_via (T105.setTop (mkF m 334 #[.val (.int i0), .val (.int i1), .val (.int i2), .val (.int i3), .val (.int i4), .val (.int (3 : Int32)), .val (.int pp), .val (.int z0), .val (.int z1), .val (.int z2), .val (.int z3), .val (.ref o64), .val (.int (1 : Int32)), .val (.ref b_94)] [(.int (1 : Int32))])) (fun t k => XS.iload X105.here hx rfl (hb hby at_332) rfl k) ?_
            refine own_via (T105.setTop (mkF m 335 #[.val (.int i0), .val (.int i1), .val (.int i2), .val (.int i3), .val (.int i4), .val (.int (3 : Int32)), .val (.int pp), .val (.int z0), .val (.int z1), .val (.int z2), .val (.int z3), .val (.ref o64), .val (.int (1 : Int32)), .val (.ref b_94)] [(.int (2 : Int32)), (.int (1 : Int32))])) (fun t k => XS.iconst X105.here hx rfl (hb hby at_334) k) ?_
            refine own_via (T105.setTop (mkF m 351 #[.val (.int i0), .val (.int i1), .val (.int i2), .val (.int i3), .val (.int i4), .val (.int (3 : Int32)), .val (.int pp), .val (.int z0), .val (.int z1), .val (.int z2), .val (.int z3), .val (.ref o64), .val (.int (1 : Int32)), .val (.ref b_94)] [])) (fun t k => XS.icmpYes X105.here hx rfl (pc0 := 335) (pc' := 351) rfl (hb hby at_335) rfl (by decide) (by decide) (by decide) k) ?_
            refine own_via (T105.setTop (mkF m 352 #[.val (.int i0), .val (.int i1), .val (.int i2), .val (.int i3), .val (.int i4), .val (.int (3 : Int32)), .val (.int pp), .val (.int z0), .val (.int z1), .val (.int z2), .val (.int z3), .val (.ref o64), .val (.int (1 : Int32)), .val (.ref b_94)] [(.int (1 : Int32))])) (fun t k => XS.iconst X105.here hx rfl (hb hby at_351) k) ?_
            exact own_leaveH X105 hlk hZ (own_EW hw) hS0 (by omega) e105 C_h94 (v := some (.int (nar .boolean (1 : Int32)))) (fun h => by rw [hret] at h; cases h) (⟨rfl, N105⟩) (by decide) (by decide) (fun fs hr => retN X105 hx (t := .boolean) hret (by simp) (hb hby at_352) hr)
          have J2 :  (z2 = 58) → own_Ends p.tables e below (own_PostH Z own_EL s h0 (Q_rm_law Z i0 i1 i2 i3 i4 G1 fm h0 n0) room_1.cells room_1.slots) (T82.setTop (mkF m 271 #[.val (.int i0), .val (.int i1), .val (.int i2), .val (.int i3), .val (.int i4), .val (.int (3 : Int32)), .val (.int pp), .val (.int z0), .val (.int z1), .val (.int z2), .val (.int z3), .val (.ref o64), .val (.int (2 : Int32)), .unset] [])) := by
            intro q2
            have hli : own_li ([z0, z1, z2] : List Int32) ([z0, z1, z2] : List Int32).length = Int32.ofNat 2 := by
              show (if z2 = 58 then Int32.ofNat 2 else (if z1 = 58 then Int32.ofNat 1 else (if z0 = 58 then Int32.ofNat 0 else -1))) = _
              rw [if_pos q2]
            refine own_via (T82.setTop (mkF m 273 #[.val (.int i0), .val (.int i1), .val (.int i2), .val (.int i3), .val (.int i4), .val (.int (3 : Int32)), .val (.int pp), .val (.int z0), .val (.int z1), .val (.int z2), .val (.int z3), .val (.ref o64), .val (.int (2 : Int32)), .unset] [(.ref o64)])) (fun t k => XS.aload X82.here hx rfl (hb hby at_271) rfl rfl k) ?_
            have f106 : Old Z n0 h82 := (f81.keep Kq82 (allS (show @LE.le Nat _ _ _ by omega) all0))
            obtain ⟨v107, T107, h107, L107, X107, e107, q107, st107⟩ := own_cS X82 hx hZ hown (hw _ (List.mem_of_getElem? (i := 34) rfl)) (hw _ (List.mem_of_getElem? (i := 35) rfl)) (hw _ (List.mem_of_getElem? (i := 36) rfl)) (hw _ (List.mem_of_getElem? (i := 37) rfl)) (by decide) (W := 0) (own_bk (rm_coN l Z a0 hw o64 t82 kb82 ([z0, z1, z2] : List Int32) G1 fm 2 h82 n0 (by omega) fE82 fV82 fC82 fA82 pf0 pf1 f106 (Nat.le_of_ble_eq_true rfl) hp hG1 rfm hli (Nat.le_of_ble_eq_true rfl) (Nat.le_of_ble_eq_true rfl)) hZ (hw _ (List.mem_of_getElem? (i := 37) rfl)) (hw _ (List.mem_of_getElem? (i := 36) rfl)) (by decide) (by decide)) e82 (Ls := #[.val (.int i0), .val (.int i1), .val (.int i2), .val (.int i3), .val (.int i4), .val (.int (3 : Int32)), .val (.int pp), .val (.int z0), .val (.int z1), .val (.int z2), .val (.int z3), .val (.ref o64), .val (.int (2 : Int32)), .unset]) (by rw [hml]; rfl) (argsL := [(.ref o64)]) (rest := []) rfl (lenOf own_pd51720142 rfl) rfl (Nat.le_of_eq rfl) (hb hby at_273) (by decide) (by decide)
            obtain ⟨b_107, tb_107, kc_107, rfl, Nq107, Kq107, f108, f109, f110, f111⟩ := q107
            have N107 := Fr.app N82 Nq107
            have sz_h107 : h82.size ≤ h107.size := Kq107.1
            have B_h107 : CHr Z own_EL s.vm h82 s.vm h107 := CHr.keep Kq107 sf0 C_h82.1
            have C_h107 : CHr Z own_EL s.vm h0 s.vm h107 := C_h82.trans B_h107
            have sf_o64_h107 : Safe Z own_EL s.vm h107 o64 := B_h107.safe (show @LT.lt Nat _ _ _ by omega) sf_o64_h82
            have sf_o65_h107 : Safe Z own_EL s.vm h107 o65 := B_h107.safe (show @LT.lt Nat _ _ _ by omega) sf_o65_h82
            have lt_b_107 : @LT.lt Nat _ b_107 h107.size := f108.lt
            have lt_tb_107 : @LT.lt Nat _ tb_107 h107.size := f111.lt
            refine own_via (T107.setTop (mkF m 276 #[.val (.int i0), .val (.int i1), .val (.int i2), .val (.int i3), .val (.int i4), .val (.int (3 : Int32)), .val (.int pp), .val (.int z0), .val (.int z1), .val (.int z2), .val (.int z3), .val (.ref o64), .val (.int (2 : Int32)), .unset] [(.ref b_107)])) (st107) ?_
            refine own_via (T107.setTop (mkF m 278 #[.val (.int i0), .val (.int i1), .val (.int i2), .val (.int i3), .val (.int i4), .val (.int (3 : Int32)), .val (.int pp), .val (.int z0), .val (.int z1), .val (.int z2), .val (.int z3), .val (.ref o64), .val (.int (2 : Int32)), .val (.ref b_107)] [])) (fun t k => XS.astore X107.here hx rfl (hb hby at_276) rfl rfl (l' := #[.val (.int i0), .val (.int i1), .val (.int i2), .val (.int i3), .val (.int i4), .val (.int (3 : Int32)), .val (.int pp), .val (.int z0), .val (.int z1), .val (.int z2), .val (.int z3), .val (.ref o64), .val (.int (2 : Int32)), .val (.ref b_107)]) rfl k) ?_
            refine own_via (T107.setTop (mkF m 280 #[.val (.int i0), .val (.int i1), .val (.int i2), .val (.int i3), .val (.int i4), .val (.int (3 : Int32)), .val (.int pp), .val (.int z0), .val (.int z1), .val (.int z2), .val (.int z3), .val (.ref o64), .val (.int (2 : Int32)), .val (.ref b_107)] [(.ref b_107)])) (fun t k => XS.aload X107.here hx rfl (hb hby at_278) rfl rfl k) ?_
            refine own_via (T107.setTop (mkF m 283 #[.val (.int i0), .val (.int i1), .val (.int i2), .val (.int i3), .val (.int i4), .val (.int (3 : Int32)), .val (.int pp), .val (.int z0), .val (.int z1), .val (.int z2), .val (.int z3), .val (.ref o64), .val (.int (2 : Int32)), .val (.ref b_107)] [])) (fun t k => XS.ifnullNo X107.here hx rfl (hb hby at_280) rfl k) ?_
            refine own_via (T107.setTop (mkF m 285 #[.val (.int i0), .val (.int i1), .val (.int i2), .val (.int i3), .val (.int i4), .val (.int (3 : Int32)), .val (.int pp), .val (.int z0), .val (.int z1), .val (.int z2), .val (.int z3), .val (.ref o64), .val (.int (2 : Int32)), .val (.ref b_107)] [(.ref b_107)])) (fun t k => XS.aload X107.here hx rfl (hb hby at_283) rfl rfl k) ?_
            have hcd112 := StrChars.Road.codOf (cs := ((([z0, z1, z2] : List Int32).drop 0).take 2)) (n := (((([z0, z1, z2] : List Int32).drop 0).take 2) : List Int32).length) rfl (fun c hc => ((own_hpt hp 0 2) c hc).2)
            have hbd113 : ∀ c ∈ (((([z0, z1, z2] : List Int32).drop 0).take 2) : List Int32), ¬ c < 0 ∧ ¬ (65535 : Int32) < c := fun c hc => own_up ((own_hpt hp 0 2) c hc)
            have f114 : Old Z n0 h107 := (f106.keep Kq107 all0)
            obtain ⟨v115, T115, h115, L115, X115, e115, q115, st115⟩ := own_cV X107 hx hZ (y := (⟨"java/lang/String", "length", "()I"⟩ : MethodName)) (z := (⟨"java/lang/String", "length", "()I"⟩ : MethodName)) hown (hw _ (List.mem_of_getElem? (i := 93) rfl)) (hw _ (List.mem_of_getElem? (i := 44) rfl)) (notFace_of_selects (args := #[]) (mvT hZ (hw _ (List.mem_of_getElem? (i := 46) rfl)))) (hw _ (List.mem_of_getElem? (i := 46) rfl)) (hw _ (List.mem_of_getElem? (i := 45) rfl)) (by decide) (W := 0) (k := 0) (j := 0) (Q := fun v h' L => v = some (.int (Int32.ofNat (((([z0, z1, z2] : List Int32).drop 0).take 2) : List Int32).length)) ∧ L = [] ∧ h' = h107) (StrChars.Road.lenW (cs := ((([z0, z1, z2] : List Int32).drop 0).take 2)) hZ (own_hln hw) (kI := 4) (hw _ (List.mem_of_getElem? (i := 5) rfl)) f108 f109 f110 f111 hcd112 hbd113 (pf0.ext f114.2) hG1 (Nat.le_of_ble_eq_true rfl) (by decide) (by decide)) e107 f108 (Ls := #[.val (.int i0), .val (.int i1), .val (.int i2), .val (.int i3), .val (.int i4), .val (.int (3 : Int32)), .val (.int pp), .val (.int z0), .val (.int z1), .val (.int z2), .val (.int z3), .val (.ref o64), .val (.int (2 : Int32)), .val (.ref b_107)]) (by rw [hml]; rfl) (argsL := []) (rest := []) rfl (lenOf own_pd93735326 rfl) rfl (Nat.le_of_eq rfl) (hb hby at_285) (by decide) (by decide)
            obtain ⟨rfl, rfl, eq115⟩ := q115
            replace e115 := e115.trans eq115
            have N115 := Fr.app N107 (Fr.nil n0)
            refine own_via (T115.setTop (mkF m 288 #[.val (.int i0), .val (.int i1), .val (.int i2), .val (.int i3), .val (.int i4), .val (.int (3 : Int32)), .val (.int pp), .val (.int z0), .val (.int z1), .val (.int z2), .val (.int z3), .val (.ref o64), .val (.int (2 : Int32)), .val (.ref b_107)] [(.int (Int32.ofNat (((([z0, z1, z2] : List Int32).drop 0).take 2) : List Int32).length))])) (st115) ?_
            refine own_via (T115.setTop (mkF m 290 #[.val (.int i0), .val (.int i1), .val (.int i2), .val (.int i3), .val (.int i4), .val (.int (3 : Int32)), .val (.int pp), .val (.int z0), .val (.int z1), .val (.int z2), .val (.int z3), .val (.ref o64), .val (.int (2 : Int32)), .val (.ref b_107)] [(.int (2 : Int32)), (.int (Int32.ofNat (((([z0, z1, z2] : List Int32).drop 0).take 2) : List Int32).length))])) (fun t k => XS.iload X115.here hx rfl (hb hby at_288) rfl k) ?_
            refine own_via (T115.setTop (mkF m 295 #[.val (.int i0), .val (.int i1), .val (.int i2), .val (.int i3), .val (.int i4), .val (.int (3 : Int32)), .val (.int pp), .val (.int z0), .val (.int z1), .val (.int z2), .val (.int z3), .val (.ref o64), .val (.int (2 : Int32)), .val (.ref b_107)] [])) (fun t k => XS.icmpYes X115.here hx rfl (pc0 := 290) (pc' := 295) rfl (hb hby at_290) rfl (XT.ii_eq_t rfl) (by decide) (by decide) k) ?_
            refine own_via (T115.setTop (mkF m 297 #[.val (.int i0), .val (.int i1), .val (.int i2), .val (.int i3), .val (.int i4), .val (.int (3 : Int32)), .val (.int pp), .val (.int z0), .val (.int z1), .val (.int z2), .val (.int z3), .val (.ref o64), .val (.int (2 : Int32)), .val (.ref b_107)] [(.int (2 : Int32))])) (fun t k => XS.iload X115.here hx rfl (hb hby at_295) rfl k) ?_
            refine own_via (T115.setTop (mkF m 300 #[.val (.int i0), .val (.int i1), .val (.int i2), .val (.int i3), .val (.int i4), .val (.int (3 : Int32)), .val (.int pp), .val (.int z0), .val (.int z1), .val (.int z2), .val (.int z3), .val (.ref o64), .val (.int (2 : Int32)), .val (.ref b_107)] [])) (fun t k => XS.ifNo X115.here hx rfl (hb hby at_297) rfl (by decide) k) ?_
            refine own_via (T115.setTop (mkF m 302 #[.val (.int i0), .val (.int i1), .val (.int i2), .val (.int i3), .val (.int i4), .val (.int (3 : Int32)), .val (.int pp), .val (.int z0), .val (.int z1), .val (.int z2), .val (.int z3), .val (.ref o64), .val (.int (2 : Int32)), .val (.ref b_107)] [(.ref b_107)])) (fun t k => XS.aload X115.here hx rfl (hb hby at_300) rfl rfl k) ?_
            refine own_via (T115.setTop (mkF m 303 #[.val (.int i0), .val (.int i1), .val (.int i2), .val (.int i3), .val (.int i4), .val (.int (3 : Int32)), .val (.int pp), .val (.int z0), .val (.int z1), .val (.int z2), .val (.int z3), .val (.ref o64), .val (.int (2 : Int32)), .val (.ref b_107)] [(.int (0 : Int32)), (.ref b_107)])) (fun t k => XS.iconst X115.here hx rfl (hb hby at_302) k) ?_
            have hcd116 := StrChars.Road.codOf (cs := ((([z0, z1, z2] : List Int32).drop 0).take 2)) (n := (((([z0, z1, z2] : List Int32).drop 0).take 2) : List Int32).length) rfl (fun c hc => ((own_hpt hp 0 2) c hc).2)
            have hbd117 : ∀ c ∈ (((([z0, z1, z2] : List Int32).drop 0).take 2) : List Int32), ¬ c < 0 ∧ ¬ (65535 : Int32) < c := fun c hc => own_up ((own_hpt hp 0 2) c hc)
            obtain ⟨v118, T118, h118, L118, X118, e118, q118, st118⟩ := own_cV X115 hx hZ (y := (⟨"java/lang/String", "charAt", "(I)C"⟩ : MethodName)) (z := (⟨"java/lang/String", "charAt", "(I)C"⟩ : MethodName)) hown (hw _ (List.mem_of_getElem? (i := 113) rfl)) (hw _ (List.mem_of_getElem? (i := 114) rfl)) (notFace_of_selects (args := #[]) (mvT hZ (hw _ (List.mem_of_getElem? (i := 116) rfl)))) (hw _ (List.mem_of_getElem? (i := 116) rfl)) (hw _ (List.mem_of_getElem? (i := 115) rfl)) (by decide) (W := 0) (k := 0) (j := 0) (Q := fun v h' L => v = some (.int ((((([z0, z1, z2] : List Int32).drop 0).take 2) : List Int32).getD 0 0)) ∧ L = [] ∧ h' = h107) (StrChars.Road.chN (cs := ((([z0, z1, z2] : List Int32).drop 0).take 2)) hZ (own_hch hw) (kI := 4) (hw _ (List.mem_of_getElem? (i := 5) rfl)) f108 f109 f110 f111 hcd116 hbd117 (pf0.ext f114.2) hG1 (pf1.ext f114.2) rfm (Nat.le_of_ble_eq_true rfl) (i := 0) (Nat.le_of_ble_eq_true rfl) rfl (by decide) (by decide)) e115 f108 (Ls := #[.val (.int i0), .val (.int i1), .val (.int i2), .val (.int i3), .val (.int i4), .val (.int (3 : Int32)), .val (.int pp), .val (.int z0), .val (.int z1), .val (.int z2), .val (.int z3), .val (.ref o64), .val (.int (2 : Int32)), .val (.ref b_107)]) (by rw [hml]; rfl) (argsL := [(.int (0 : Int32))]) (rest := []) rfl (lenOf own_pd55318145 rfl) rfl (Nat.le_of_eq rfl) (hb hby at_303) (by decide) (by decide)
            obtain ⟨rfl, rfl, eq118⟩ := q118
            replace e118 := e118.trans eq118
            have N118 := Fr.app N115 (Fr.nil n0)
            refine own_via (T118.setTop (mkF m 306 #[.val (.int i0), .val (.int i1), .val (.int i2), .val (.int i3), .val (.int i4), .val (.int (3 : Int32)), .val (.int pp), .val (.int z0), .val (.int z1), .val (.int z2), .val (.int z3), .val (.ref o64), .val (.int (2 : Int32)), .val (.ref b_107)] [(.int ((((([z0, z1, z2] : List Int32).drop 0).take 2) : List Int32).getD 0 0))])) (st118) ?_
            refine own_via (T118.setTop (mkF m 308 #[.val (.int i0), .val (.int i1), .val (.int i2), .val (.int i3), .val (.int i4), .val (.int (3 : Int32)), .val (.int pp), .val (.int z0), .val (.int z1), .val (.int z2), .val (.int z3), .val (.ref o64), .val (.int (2 : Int32)), .val (.ref b_107)] [(.int z0), (.int ((((([z0, z1, z2] : List Int32).drop 0).take 2) : List Int32).getD 0 0))])) (fun t k => XS.iload X118.here hx rfl (hb hby at_306) rfl k) ?_
            refine own_via (T118.setTop (mkF m 313 #[.val (.int i0), .val (.int i1), .val (.int i2), .val (.int i3), .val (.int i4), .val (.int (3 : Int32)), .val (.int pp), .val (.int z0), .val (.int z1), .val (.int z2), .val (.int z3), .val (.ref o64), .val (.int (2 : Int32)), .val (.ref b_107)] [])) (fun t k => XS.icmpYes X118.here hx rfl (pc0 := 308) (pc' := 313) rfl (hb hby at_308) rfl (XT.ii_eq_t rfl) (by decide) (by decide) k) ?_
            refine own_via (T118.setTop (mkF m 315 #[.val (.int i0), .val (.int i1), .val (.int i2), .val (.int i3), .val (.int i4), .val (.int (3 : Int32)), .val (.int pp), .val (.int z0), .val (.int z1), .val (.int z2), .val (.int z3), .val (.ref o64), .val (.int (2 : Int32)), .val (.ref b_107)] [(.int (2 : Int32))])) (fun t k => XS.iload X118.here hx rfl (hb hby at_313) rfl k) ?_
            refine own_via (T118.setTop (mkF m 316 #[.val (.int i0), .val (.int i1), .val (.int i2), .val (.int i3), .val (.int i4), .val (.int (3 : Int32)), .val (.int pp), .val (.int z0), .val (.int z1), .val (.int z2), .val (.int z3), .val (.ref o64), .val (.int (2 : Int32)), .val (.ref b_107)] [(.int (1 : Int32)), (.int (2 : Int32))])) (fun t k => XS.iconst X118.here hx rfl (hb hby at_315) k) ?_
            refine own_via (T118.setTop (mkF m 319 #[.val (.int i0), .val (.int i1), .val (.int i2), .val (.int i3), .val (.int i4), .val (.int (3 : Int32)), .val (.int pp), .val (.int z0), .val (.int z1), .val (.int z2), .val (.int z3), .val (.ref o64), .val (.int (2 : Int32)), .val (.ref b_107)] [])) (fun t k => XS.icmpNo X118.here hx rfl (hb hby at_316) rfl (by decide) k) ?_
            refine own_via (T118.setTop (mkF m 321 #[.val (.int i0), .val (.int i1), .val (.int i2), .val (.int i3), .val (.int i4), .val (.int (3 : Int32)), .val (.int pp), .val (.int z0), .val (.int z1), .val (.int z2), .val (.int z3), .val (.ref o64), .val (.int (2 : Int32)), .val (.ref b_107)] [(.ref b_107)])) (fun t k => XS.aload X118.here hx rfl (hb hby at_319) rfl rfl k) ?_
            refine own_via (T118.setTop (mkF m 322 #[.val (.int i0), .val (.int i1), .val (.int i2), .val (.int i3), .val (.int i4), .val (.int (3 : Int32)), .val (.int pp), .val (.int z0), .val (.int z1), .val (.int z2), .val (.int z3), .val (.ref o64), .val (.int (2 : Int32)), .val (.ref b_107)] [(.int (1 : Int32)), (.ref b_107)])) (fun t k => XS.iconst X118.here hx rfl (hb hby at_321) k) ?_
            have hcd119 := StrChars.Road.codOf (cs := ((([z0, z1, z2] : List Int32).drop 0).take 2)) (n := (((([z0, z1, z2] : List Int32).drop 0).take 2) : List Int32).length) rfl (fun c hc => ((own_hpt hp 0 2) c hc).2)
            have hbd120 : ∀ c ∈ (((([z0, z1, z2] : List Int32).drop 0).take 2) : List Int32), ¬ c < 0 ∧ ¬ (65535 : Int32) < c := fun c hc => own_up ((own_hpt hp 0 2) c hc)
            obtain ⟨v121, T121, h121, L121, X121, e121, q121, st121⟩ := own_cV X118 hx hZ (y := (⟨"java/lang/String", "charAt", "(I)C"⟩ : MethodName)) (z := (⟨"java/lang/String", "charAt", "(I)C"⟩ : MethodName)) hown (hw _ (List.mem_of_getElem? (i := 113) rfl)) (hw _ (List.mem_of_getElem? (i := 114) rfl)) (notFace_of_selects (args := #[]) (mvT hZ (hw _ (List.mem_of_getElem? (i := 116) rfl)))) (hw _ (List.mem_of_getElem? (i := 116) rfl)) (hw _ (List.mem_of_getElem? (i := 115) rfl)) (by decide) (W := 0) (k := 0) (j := 0) (Q := fun v h' L => v = some (.int ((((([z0, z1, z2] : List Int32).drop 0).take 2) : List Int32).getD 1 0)) ∧ L = [] ∧ h' = h107) (StrChars.Road.chN (cs := ((([z0, z1, z2] : List Int32).drop 0).take 2)) hZ (own_hch hw) (kI := 4) (hw _ (List.mem_of_getElem? (i := 5) rfl)) f108 f109 f110 f111 hcd119 hbd120 (pf0.ext f114.2) hG1 (pf1.ext f114.2) rfm (Nat.le_of_ble_eq_true rfl) (i := 1) (Nat.le_of_ble_eq_true rfl) rfl (by decide) (by decide)) e118 f108 (Ls := #[.val (.int i0), .val (.int i1), .val (.int i2), .val (.int i3), .val (.int i4), .val (.int (3 : Int32)), .val (.int pp), .val (.int z0), .val (.int z1), .val (.int z2), .val (.int z3), .val (.ref o64), .val (.int (2 : Int32)), .val (.ref b_107)]) (by rw [hml]; rfl) (argsL := [(.int (1 : Int32))]) (rest := []) rfl (lenOf own_pd55318145 rfl) rfl (Nat.le_of_eq rfl) (hb hby at_322) (by decide) (by decide)
            obtain ⟨rfl, rfl, eq121⟩ := q121
            replace e121 := e121.trans eq121
            have N121 := Fr.app N118 (Fr.nil n0)
            refine own_via (T121.setTop (mkF m 325 #[.val (.int i0), .val (.int i1), .val (.int i2), .val (.int i3), .val (.int i4), .val (.int (3 : Int32)), .val (.int pp), .val (.int z0), .val (.int z1), .val (.int z2), .val (.int z3), .val (.ref o64), .val (.int (2 : Int32)), .val (.ref b_107)] [(.int ((((([z0, z1, z2] : List Int32).drop 0).take 2) : List Int32).getD 1 0))])) (st121) ?_
            refine own_via (T121.setTop (mkF m 327 #[.val (.int i0), .val (.int i1), .val (.int i2), .val (.int i3), .val (.int i4), .val (.int (3 : Int32)), .val (.int pp), .val (.int z0), .val (.int z1), .val (.int z2), .val (.int z3), .val (.ref o64), .val (.int (2 : Int32)), .val (.ref b_107)] [(.int z1), (.int ((((([z0, z1, z2] : List Int32).drop 0).take 2) : List Int32).getD 1 0))])) (fun t k => XS.iload X121.here hx rfl (hb hby at_325) rfl k) ?_
            refine own_via (T121.setTop (mkF m 332 #[.val (.int i0), .val (.int i1), .val (.int i2), .val (.int i3), .val (.int i4), .val (.int (3 : Int32)), .val (.int pp), .val (.int z0), .val (.int z1), .val (.int z2), .val (.int z3), .val (.ref o64), .val (.int (2 : Int32)), .val (.ref b_107)] [])) (fun t k => XS.icmpYes X121.here hx rfl (pc0 := 327) (pc' := 332) rfl (hb hby at_327) rfl (XT.ii_eq_t rfl) (by decide) (by decide) k) ?_
            refine own_via (T121.setTop (mkF m 334 #[.val (.int i0), .val (.int i1), .val (.int i2), .val (.int i3), .val (.int i4), .val (.int (3 : Int32)), .val (.int pp), .val (.int z0), .val (.int z1), .val (.int z2), .val (.int z3), .val (.ref o64), .val (.int (2 : Int32)), .val (.ref b_107)] [(.int (2 : Int32))])) (fun t k => XS.iload X121.here hx rfl (hb hby at_332) rfl k) ?_
            refine own_via (T121.setTop (mkF m 335 #[.val (.int i0), .val (.int i1), .val (.int i2), .val (.int i3), .val (.int i4), .val (.int (3 : Int32)), .val (.int pp), .val (.int z0), .val (.int z1), .val (.int z2), .val (.int z3), .val (.ref o64), .val (.int (2 : Int32)), .val (.ref b_107)] [(.int (2 : Int32)), (.int (2 : Int32))])) (fun t k => XS.iconst X121.here hx rfl (hb hby at_334) k) ?_
            refine own_via (T121.setTop (mkF m 351 #[.val (.int i0), .val (.int i1), .val (.int i2), .val (.int i3), .val (.int i4), .val (.int (3 : Int32)), .val (.int pp), .val (.int z0), .val (.int z1), .val (.int z2), .val (.int z3), .val (.ref o64), .val (.int (2 : Int32)), .val (.ref b_107)] [])) (fun t k => XS.icmpYes X121.here hx rfl (pc0 := 335) (pc' := 351) rfl (hb hby at_335) rfl (by decide) (by decide) (by decide) k) ?_
            refine own_via (T121.setTop (mkF m 352 #[.val (.int i0), .val (.int i1), .val (.int i2), .val (.int i3), .val (.int i4), .val (.int (3 : Int32)), .val (.int pp), .val (.int z0), .val (.int z1), .val (.int z2), .val (.int z3), .val (.ref o64), .val (.int (2 : Int32)), .val (.ref b_107)] [(.int (1 : Int32))])) (fun t k => XS.iconst X121.here hx rfl (hb hby at_351) k) ?_
            exact own_leaveH X121 hlk hZ (own_EW hw) hS0 (by omega) e121 C_h107 (v := some (.int (nar .boolean (1 : Int32)))) (fun h => by rw [hret] at h; cases h) (⟨rfl, N121⟩) (by decide) (by decide) (fun fs hr => retN X121 hx (t := .boolean) hret (by simp) (hb hby at_352) hr)
          by_cases q0 : z0 = (58 : Int32)
          · refine own_via (T82.setTop (mkF m 220 #[.val (.int i0), .val (.int i1), .val (.int i2), .val (.int i3), .val (.int i4), .val (.int (3 : Int32)), .val (.int pp), .val (.int z0), .val (.int z1), .val (.int z2), .val (.int z3), .val (.ref o64), .val (.int (-1 : Int32)), .unset] [])) (fun t k => XS.icmpNo X82.here hx rfl (hb hby at_217) rfl (XT.ii_ne_f q0) k) ?_
            refine own_via (T82.setTop (mkF m 221 #[.val (.int i0), .val (.int i1), .val (.int i2), .val (.int i3), .val (.int i4), .val (.int (3 : Int32)), .val (.int pp), .val (.int z0), .val (.int z1), .val (.int z2), .val (.int z3), .val (.ref o64), .val (.int (-1 : Int32)), .unset] [(.int (0 : Int32))])) (fun t k => XS.iconst X82.here hx rfl (hb hby at_220) k) ?_
            refine own_via (T82.setTop (mkF m 223 #[.val (.int i0), .val (.int i1), .val (.int i2), .val (.int i3), .val (.int i4), .val (.int (3 : Int32)), .val (.int pp), .val (.int z0), .val (.int z1), .val (.int z2), .val (.int z3), .val (.ref o64), .val (.int (0 : Int32)), .unset] [])) (fun t k => XS.istore X82.here hx rfl (hb hby at_221) rfl (l' := #[.val (.int i0), .val (.int i1), .val (.int i2), .val (.int i3), .val (.int i4), .val (.int (3 : Int32)), .val (.int pp), .val (.int z0), .val (.int z1), .val (.int z2), .val (.int z3), .val (.ref o64), .val (.int (0 : Int32)), .unset]) rfl k) ?_
            refine own_via (T82.setTop (mkF m 225 #[.val (.int i0), .val (.int i1), .val (.int i2), .val (.int i3), .val (.int i4), .val (.int (3 : Int32)), .val (.int pp), .val (.int z0), .val (.int z1), .val (.int z2), .val (.int z3), .val (.ref o64), .val (.int (0 : Int32)), .unset] [(.int (3 : Int32))])) (fun t k => XS.iload X82.here hx rfl (hb hby at_223) rfl k) ?_
            refine own_via (T82.setTop (mkF m 226 #[.val (.int i0), .val (.int i1), .val (.int i2), .val (.int i3), .val (.int i4), .val (.int (3 : Int32)), .val (.int pp), .val (.int z0), .val (.int z1), .val (.int z2), .val (.int z3), .val (.ref o64), .val (.int (0 : Int32)), .unset] [(.int (1 : Int32)), (.int (3 : Int32))])) (fun t k => XS.iconst X82.here hx rfl (hb hby at_225) k) ?_
            refine own_via (T82.setTop (mkF m 229 #[.val (.int i0), .val (.int i1), .val (.int i2), .val (.int i3), .val (.int i4), .val (.int (3 : Int32)), .val (.int pp), .val (.int z0), .val (.int z1), .val (.int z2), .val (.int z3), .val (.ref o64), .val (.int (0 : Int32)), .unset] [])) (fun t k => XS.icmpNo X82.here hx rfl (hb hby at_226) rfl (by decide) k) ?_
            refine own_via (T82.setTop (mkF m 231 #[.val (.int i0), .val (.int i1), .val (.int i2), .val (.int i3), .val (.int i4), .val (.int (3 : Int32)), .val (.int pp), .val (.int z0), .val (.int z1), .val (.int z2), .val (.int z3), .val (.ref o64), .val (.int (0 : Int32)), .unset] [(.int z1)])) (fun t k => XS.iload X82.here hx rfl (hb hby at_229) rfl k) ?_
            refine own_via (T82.setTop (mkF m 233 #[.val (.int i0), .val (.int i1), .val (.int i2), .val (.int i3), .val (.int i4), .val (.int (3 : Int32)), .val (.int pp), .val (.int z0), .val (.int z1), .val (.int z2), .val (.int z3), .val (.ref o64), .val (.int (0 : Int32)), .unset] [(.int (58 : Int32)), (.int z1)])) (fun t k => XS.bipush X82.here hx rfl (hb hby at_231) k) ?_
            by_cases q1 : z1 = (58 : Int32)
            · refine own_via (T82.setTop (mkF m 236 #[.val (.int i0), .val (.int i1), .val (.int i2), .val (.int i3), .val (.int i4), .val (.int (3 : Int32)), .val (.int pp), .val (.int z0), .val (.int z1), .val (.int z2), .val (.int z3), .val (.ref o64), .val (.int (0 : Int32)), .unset] [])) (fun t k => XS.icmpNo X82.here hx rfl (hb hby at_233) rfl (XT.ii_ne_f q1) k) ?_
              refine own_via (T82.setTop (mkF m 237 #[.val (.int i0), .val (.int i1), .val (.int i2), .val (.int i3), .val (.int i4), .val (.int (3 : Int32)), .val (.int pp), .val (.int z0), .val (.int z1), .val (.int z2), .val (.int z3), .val (.ref o64), .val (.int (0 : Int32)), .unset] [(.int (1 : Int32))])) (fun t k => XS.iconst X82.here hx rfl (hb hby at_236) k) ?_
              refine own_via (T82.setTop (mkF m 239 #[.val (.int i0), .val (.int i1), .val (.int i2), .val (.int i3), .val (.int i4), .val (.int (3 : Int32)), .val (.int pp), .val (.int z0), .val (.int z1), .val (.int z2), .val (.int z3), .val (.ref o64), .val (.int (1 : Int32)), .unset] [])) (fun t k => XS.istore X82.here hx rfl (hb hby at_237) rfl (l' := #[.val (.int i0), .val (.int i1), .val (.int i2), .val (.int i3), .val (.int i4), .val (.int (3 : Int32)), .val (.int pp), .val (.int z0), .val (.int z1), .val (.int z2), .val (.int z3), .val (.ref o64), .val (.int (1 : Int32)), .unset]) rfl k) ?_
              refine own_via (T82.setTop (mkF m 241 #[.val (.int i0), .val (.int i1), .val (.int i2), .val (.int i3), .val (.int i4), .val (.int (3 : Int32)), .val (.int pp), .val (.int z0), .val (.int z1), .val (.int z2), .val (.int z3), .val (.ref o64), .val (.int (1 : Int32)), .unset] [(.int (3 : Int32))])) (fun t k => XS.iload X82.here hx rfl (hb hby at_239) rfl k) ?_
              refine own_via (T82.setTop (mkF m 242 #[.val (.int i0), .val (.int i1), .val (.int i2), .val (.int i3), .val (.int i4), .val (.int (3 : Int32)), .val (.int pp), .val (.int z0), .val (.int z1), .val (.int z2), .val (.int z3), .val (.ref o64), .val (.int (1 : Int32)), .unset] [(.int (2 : Int32)), (.int (3 : Int32))])) (fun t k => XS.iconst X82.here hx rfl (hb hby at_241) k) ?_
              refine own_via (T82.setTop (mkF m 245 #[.val (.int i0), .val (.int i1), .val (.int i2), .val (.int i3), .val (.int i4), .val (.int (3 : Int32)), .val (.int pp), .val (.int z0), .val (.int z1), .val (.int z2), .val (.int z3), .val (.ref o64), .val (.int (1 : Int32)), .unset] [])) (fun t k => XS.icmpNo X82.here hx rfl (hb hby at_242) rfl (by decide) k) ?_
              refine own_via (T82.setTop (mkF m 247 #[.val (.int i0), .val (.int i1), .val (.int i2), .val (.int i3), .val (.int i4), .val (.int (3 : Int32)), .val (.int pp), .val (.int z0), .val (.int z1), .val (.int z2), .val (.int z3), .val (.ref o64), .val (.int (1 : Int32)), .unset] [(.int z2)])) (fun t k => XS.iload X82.here hx rfl (hb hby at_245) rfl k) ?_
              refine own_via (T82.setTop (mkF m 249 #[.val (.int i0), .val (.int i1), .val (.int i2), .val (.int i3), .val (.int i4), .val (.int (3 : Int32)), .val (.int pp), .val (.int z0), .val (.int z1), .val (.int z2), .val (.int z3), .val (.ref o64), .val (.int (1 : Int32)), .unset] [(.int (58 : Int32)), (.int z2)])) (fun t k => XS.bipush X82.here hx rfl (hb hby at_247) k) ?_
              by_cases q2 : z2 = (58 : Int32)
              · refine own_via (T82.setTop (mkF m 252 #[.val (.int i0), .val (.int i1), .val (.int i2), .val (.int i3), .val (.int i4), .val (.int (3 : Int32)), .val (.int pp), .val (.int z0), .val (.int z1), .val (.int z2), .val (.int z3), .val (.ref o64), .val (.int (1 : Int32)), .unset] [])) (fun t k => XS.icmpNo X82.here hx rfl (hb hby at_249) rfl (XT.ii_ne_f q2) k) ?_
                refine own_via (T82.setTop (mkF m 253 #[.val (.int i0), .val (.int i1), .val (.int i2), .val (.int i3), .val (.int i4), .val (.int (3 : Int32)), .val (.int pp), .val (.int z0), .val (.int z1), .val (.int z2), .val (.int z3), .val (.ref o64), .val (.int (1 : Int32)), .unset] [(.int (2 : Int32))])) (fun t k => XS.iconst X82.here hx rfl (hb hby at_252) k) ?_
                refine own_via (T82.setTop (mkF m 255 #[.val (.int i0), .val (.int i1), .val (.int i2), .val (.int i3), .val (.int i4), .val (.int (3 : Int32)), .val (.int pp), .val (.int z0), .val (.int z1), .val (.int z2), .val (.int z3), .val (.ref o64), .val (.int (2 : Int32)), .unset] [])) (fun t k => XS.istore X82.here hx rfl (hb hby at_253) rfl (l' := #[.val (.int i0), .val (.int i1), .val (.int i2), .val (.int i3), .val (.int i4), .val (.int (3 : Int32)), .val (.int pp), .val (.int z0), .val (.int z1), .val (.int z2), .val (.int z3), .val (.ref o64), .val (.int (2 : Int32)), .unset]) rfl k) ?_
                refine own_via (T82.setTop (mkF m 257 #[.val (.int i0), .val (.int i1), .val (.int i2), .val (.int i3), .val (.int i4), .val (.int (3 : Int32)), .val (.int pp), .val (.int z0), .val (.int z1), .val (.int z2), .val (.int z3), .val (.ref o64), .val (.int (2 : Int32)), .unset] [(.int (3 : Int32))])) (fun t k => XS.iload X82.here hx rfl (hb hby at_255) rfl k) ?_
                refine own_via (T82.setTop (mkF m 258 #[.val (.int i0), .val (.int i1), .val (.int i2), .val (.int i3), .val (.int i4), .val (.int (3 : Int32)), .val (.int pp), .val (.int z0), .val (.int z1), .val (.int z2), .val (.int z3), .val (.ref o64), .val (.int (2 : Int32)), .unset] [(.int (3 : Int32)), (.int (3 : Int32))])) (fun t k => XS.iconst X82.here hx rfl (hb hby at_257) k) ?_
                refine own_via (T82.setTop (mkF m 271 #[.val (.int i0), .val (.int i1), .val (.int i2), .val (.int i3), .val (.int i4), .val (.int (3 : Int32)), .val (.int pp), .val (.int z0), .val (.int z1), .val (.int z2), .val (.int z3), .val (.ref o64), .val (.int (2 : Int32)), .unset] [])) (fun t k => XS.icmpYes X82.here hx rfl (pc0 := 258) (pc' := 271) rfl (hb hby at_258) rfl (by decide) (by decide) (by decide) k) ?_
                exact J2 q2
              · refine own_via (T82.setTop (mkF m 255 #[.val (.int i0), .val (.int i1), .val (.int i2), .val (.int i3), .val (.int i4), .val (.int (3 : Int32)), .val (.int pp), .val (.int z0), .val (.int z1), .val (.int z2), .val (.int z3), .val (.ref o64), .val (.int (1 : Int32)), .unset] [])) (fun t k => XS.icmpYes X82.here hx rfl (pc0 := 249) (pc' := 255) rfl (hb hby at_249) rfl (XT.ii_ne_t q2) (by decide) (by decide) k) ?_
                refine own_via (T82.setTop (mkF m 257 #[.val (.int i0), .val (.int i1), .val (.int i2), .val (.int i3), .val (.int i4), .val (.int (3 : Int32)), .val (.int pp), .val (.int z0), .val (.int z1), .val (.int z2), .val (.int z3), .val (.ref o64), .val (.int (1 : Int32)), .unset] [(.int (3 : Int32))])) (fun t k => XS.iload X82.here hx rfl (hb hby at_255) rfl k) ?_
                refine own_via (T82.setTop (mkF m 258 #[.val (.int i0), .val (.int i1), .val (.int i2), .val (.int i3), .val (.int i4), .val (.int (3 : Int32)), .val (.int pp), .val (.int z0), .val (.int z1), .val (.int z2), .val (.int z3), .val (.ref o64), .val (.int (1 : Int32)), .unset] [(.int (3 : Int32)), (.int (3 : Int32))])) (fun t k => XS.iconst X82.here hx rfl (hb hby at_257) k) ?_
                refine own_via (T82.setTop (mkF m 271 #[.val (.int i0), .val (.int i1), .val (.int i2), .val (.int i3), .val (.int i4), .val (.int (3 : Int32)), .val (.int pp), .val (.int z0), .val (.int z1), .val (.int z2), .val (.int z3), .val (.ref o64), .val (.int (1 : Int32)), .unset] [])) (fun t k => XS.icmpYes X82.here hx rfl (pc0 := 258) (pc' := 271) rfl (hb hby at_258) rfl (by decide) (by decide) (by decide) k) ?_
                exact J1 q1 q2
            · refine own_via (T82.setTop (mkF m 239 #[.val (.int i0), .val (.int i1), .val (.int i2), .val (.int i3), .val (.int i4), .val (.int (3 : Int32)), .val (.int pp), .val (.int z0), .val (.int z1), .val (.int z2), .val (.int z3), .val (.ref o64), .val (.int (0 : Int32)), .unset] [])) (fun t k => XS.icmpYes X82.here hx rfl (pc0 := 233) (pc' := 239) rfl (hb hby at_233) rfl (XT.ii_ne_t q1) (by decide) (by decide) k) ?_
              refine own_via (T82.setTop (mkF m 241 #[.val (.int i0), .val (.int i1), .val (.int i2), .val (.int i3), .val (.int i4), .val (.int (3 : Int32)), .val (.int pp), .val (.int z0), .val (.int z1), .val (.int z2), .val (.int z3), .val (.ref o64), .val (.int (0 : Int32)), .unset] [(.int (3 : Int32))])) (fun t k => XS.iload X82.here hx rfl (hb hby at_239) rfl k) ?_
              refine own_via (T82.setTop (mkF m 242 #[.val (.int i0), .val (.int i1), .val (.int i2), .val (.int i3), .val (.int i4), .val (.int (3 : Int32)), .val (.int pp), .val (.int z0), .val (.int z1), .val (.int z2), .val (.int z3), .val (.ref o64), .val (.int (0 : Int32)), .unset] [(.int (2 : Int32)), (.int (3 : Int32))])) (fun t k => XS.iconst X82.here hx rfl (hb hby at_241) k) ?_
              refine own_via (T82.setTop (mkF m 245 #[.val (.int i0), .val (.int i1), .val (.int i2), .val (.int i3), .val (.int i4), .val (.int (3 : Int32)), .val (.int pp), .val (.int z0), .val (.int z1), .val (.int z2), .val (.int z3), .val (.ref o64), .val (.int (0 : Int32)), .unset] [])) (fun t k => XS.icmpNo X82.here hx rfl (hb hby at_242) rfl (by decide) k) ?_
              refine own_via (T82.setTop (mkF m 247 #[.val (.int i0), .val (.int i1), .val (.int i2), .val (.int i3), .val (.int i4), .val (.int (3 : Int32)), .val (.int pp), .val (.int z0), .val (.int z1), .val (.int z2), .val (.int z3), .val (.ref o64), .val (.int (0 : Int32)), .unset] [(.int z2)])) (fun t k => XS.iload X82.here hx rfl (hb hby at_245) rfl k) ?_
              refine own_via (T82.setTop (mkF m 249 #[.val (.int i0), .val (.int i1), .val (.int i2), .val (.int i3), .val (.int i4), .val (.int (3 : Int32)), .val (.int pp), .val (.int z0), .val (.int z1), .val (.int z2), .val (.int z3), .val (.ref o64), .val (.int (0 : Int32)), .unset] [(.int (58 : Int32)), (.int z2)])) (fun t k => XS.bipush X82.here hx rfl (hb hby at_247) k) ?_
              by_cases q2 : z2 = (58 : Int32)
              · refine own_via (T82.setTop (mkF m 252 #[.val (.int i0), .val (.int i1), .val (.int i2), .val (.int i3), .val (.int i4), .val (.int (3 : Int32)), .val (.int pp), .val (.int z0), .val (.int z1), .val (.int z2), .val (.int z3), .val (.ref o64), .val (.int (0 : Int32)), .unset] [])) (fun t k => XS.icmpNo X82.here hx rfl (hb hby at_249) rfl (XT.ii_ne_f q2) k) ?_
                refine own_via (T82.setTop (mkF m 253 #[.val (.int i0), .val (.int i1), .val (.int i2), .val (.int i3), .val (.int i4), .val (.int (3 : Int32)), .val (.int pp), .val (.int z0), .val (.int z1), .val (.int z2), .val (.int z3), .val (.ref o64), .val (.int (0 : Int32)), .unset] [(.int (2 : Int32))])) (fun t k => XS.iconst X82.here hx rfl (hb hby at_252) k) ?_
                refine own_via (T82.setTop (mkF m 255 #[.val (.int i0), .val (.int i1), .val (.int i2), .val (.int i3), .val (.int i4), .val (.int (3 : Int32)), .val (.int pp), .val (.int z0), .val (.int z1), .val (.int z2), .val (.int z3), .val (.ref o64), .val (.int (2 : Int32)), .unset] [])) (fun t k => XS.istore X82.here hx rfl (hb hby at_253) rfl (l' := #[.val (.int i0), .val (.int i1), .val (.int i2), .val (.int i3), .val (.int i4), .val (.int (3 : Int32)), .val (.int pp), .val (.int z0), .val (.int z1), .val (.int z2), .val (.int z3), .val (.ref o64), .val (.int (2 : Int32)), .unset]) rfl k) ?_
                refine own_via (T82.setTop (mkF m 257 #[.val (.int i0), .val (.int i1), .val (.int i2), .val (.int i3), .val (.int i4), .val (.int (3 : Int32)), .val (.int pp), .val (.int z0), .val (.int z1), .val (.int z2), .val (.int z3), .val (.ref o64), .val (.int (2 : Int32)), .unset] [(.int (3 : Int32))])) (fun t k => XS.iload X82.here hx rfl (hb hby at_255) rfl k) ?_
                refine own_via (T82.setTop (mkF m 258 #[.val (.int i0), .val (.int i1), .val (.int i2), .val (.int i3), .val (.int i4), .val (.int (3 : Int32)), .val (.int pp), .val (.int z0), .val (.int z1), .val (.int z2), .val (.int z3), .val (.ref o64), .val (.int (2 : Int32)), .unset] [(.int (3 : Int32)), (.int (3 : Int32))])) (fun t k => XS.iconst X82.here hx rfl (hb hby at_257) k) ?_
                refine own_via (T82.setTop (mkF m 271 #[.val (.int i0), .val (.int i1), .val (.int i2), .val (.int i3), .val (.int i4), .val (.int (3 : Int32)), .val (.int pp), .val (.int z0), .val (.int z1), .val (.int z2), .val (.int z3), .val (.ref o64), .val (.int (2 : Int32)), .unset] [])) (fun t k => XS.icmpYes X82.here hx rfl (pc0 := 258) (pc' := 271) rfl (hb hby at_258) rfl (by decide) (by decide) (by decide) k) ?_
                exact J2 q2
              · refine own_via (T82.setTop (mkF m 255 #[.val (.int i0), .val (.int i1), .val (.int i2), .val (.int i3), .val (.int i4), .val (.int (3 : Int32)), .val (.int pp), .val (.int z0), .val (.int z1), .val (.int z2), .val (.int z3), .val (.ref o64), .val (.int (0 : Int32)), .unset] [])) (fun t k => XS.icmpYes X82.here hx rfl (pc0 := 249) (pc' := 255) rfl (hb hby at_249) rfl (XT.ii_ne_t q2) (by decide) (by decide) k) ?_
                refine own_via (T82.setTop (mkF m 257 #[.val (.int i0), .val (.int i1), .val (.int i2), .val (.int i3), .val (.int i4), .val (.int (3 : Int32)), .val (.int pp), .val (.int z0), .val (.int z1), .val (.int z2), .val (.int z3), .val (.ref o64), .val (.int (0 : Int32)), .unset] [(.int (3 : Int32))])) (fun t k => XS.iload X82.here hx rfl (hb hby at_255) rfl k) ?_
                refine own_via (T82.setTop (mkF m 258 #[.val (.int i0), .val (.int i1), .val (.int i2), .val (.int i3), .val (.int i4), .val (.int (3 : Int32)), .val (.int pp), .val (.int z0), .val (.int z1), .val (.int z2), .val (.int z3), .val (.ref o64), .val (.int (0 : Int32)), .unset] [(.int (3 : Int32)), (.int (3 : Int32))])) (fun t k => XS.iconst X82.here hx rfl (hb hby at_257) k) ?_
                refine own_via (T82.setTop (mkF m 271 #[.val (.int i0), .val (.int i1), .val (.int i2), .val (.int i3), .val (.int i4), .val (.int (3 : Int32)), .val (.int pp), .val (.int z0), .val (.int z1), .val (.int z2), .val (.int z3), .val (.ref o64), .val (.int (0 : Int32)), .unset] [])) (fun t k => XS.icmpYes X82.here hx rfl (pc0 := 258) (pc' := 271) rfl (hb hby at_258) rfl (by decide) (by decide) (by decide) k) ?_
                exact J0 q0 q1 q2
          · refine own_via (T82.setTop (mkF m 223 #[.val (.int i0), .val (.int i1), .val (.int i2), .val (.int i3), .val (.int i4), .val (.int (3 : Int32)), .val (.int pp), .val (.int z0), .val (.int z1), .val (.int z2), .val (.int z3), .val (.ref o64), .val (.int (-1 : Int32)), .unset] [])) (fun t k => XS.icmpYes X82.here hx rfl (pc0 := 217) (pc' := 223) rfl (hb hby at_217) rfl (XT.ii_ne_t q0) (by decide) (by decide) k) ?_
            refine own_via (T82.setTop (mkF m 225 #[.val (.int i0), .val (.int i1), .val (.int i2), .val (.int i3), .val (.int i4), .val (.int (3 : Int32)), .val (.int pp), .val (.int z0), .val (.int z1), .val (.int z2), .val (.int z3), .val (.ref o64), .val (.int (-1 : Int32)), .unset] [(.int (3 : Int32))])) (fun t k => XS.iload X82.here hx rfl (hb hby at_223) rfl k) ?_
            refine own_via (T82.setTop (mkF m 226 #[.val (.int i0), .val (.int i1), .val (.int i2), .val (.int i3), .val (.int i4), .val (.int (3 : Int32)), .val (.int pp), .val (.int z0), .val (.int z1), .val (.int z2), .val (.int z3), .val (.ref o64), .val (.int (-1 : Int32)), .unset] [(.int (1 : Int32)), (.int (3 : Int32))])) (fun t k => XS.iconst X82.here hx rfl (hb hby at_225) k) ?_
            refine own_via (T82.setTop (mkF m 229 #[.val (.int i0), .val (.int i1), .val (.int i2), .val (.int i3), .val (.int i4), .val (.int (3 : Int32)), .val (.int pp), .val (.int z0), .val (.int z1), .val (.int z2), .val (.int z3), .val (.ref o64), .val (.int (-1 : Int32)), .unset] [])) (fun t k => XS.icmpNo X82.here hx rfl (hb hby at_226) rfl (by decide) k) ?_
            refine own_via (T82.setTop (mkF m 231 #[.val (.int i0), .val (.int i1), .val (.int i2), .val (.int i3), .val (.int i4), .val (.int (3 : Int32)), .val (.int pp), .val (.int z0), .val (.int z1), .val (.int z2), .val (.int z3), .val (.ref o64), .val (.int (-1 : Int32)), .unset] [(.int z1)])) (fun t k => XS.iload X82.here hx rfl (hb hby at_229) rfl k) ?_
            refine own_via (T82.setTop (mkF m 233 #[.val (.int i0), .val (.int i1), .val (.int i2), .val (.int i3), .val (.int i4), .val (.int (3 : Int32)), .val (.int pp), .val (.int z0), .val (.int z1), .val (.int z2), .val (.int z3), .val (.ref o64), .val (.int (-1 : Int32)), .unset] [(.int (58 : Int32)), (.int z1)])) (fun t k => XS.bipush X82.here hx rfl (hb hby at_231) k) ?_
            by_cases q1 : z1 = (58 : Int32)
            · refine own_via (T82.setTop (mkF m 236 #[.val (.int i0), .val (.int i1), .val (.int i2), .val (.int i3), .val (.int i4), .val (.int (3 : Int32)), .val (.int pp), .val (.int z0), .val (.int z1), .val (.int z2), .val (.int z3), .val (.ref o64), .val (.int (-1 : Int32)), .unset] [])) (fun t k => XS.icmpNo X82.here hx rfl (hb hby at_233) rfl (XT.ii_ne_f q1) k) ?_
              refine own_via (T82.setTop (mkF m 237 #[.val (.int i0), .val (.int i1), .val (.int i2), .val (.int i3), .val (.int i4), .val (.int (3 : Int32)), .val (.int pp), .val (.int z0), .val (.int z1), .val (.int z2), .val (.int z3), .val (.ref o64), .val (.int (-1 : Int32)), .unset] [(.int (1 : Int32))])) (fun t k => XS.iconst X82.here hx rfl (hb hby at_236) k) ?_
              refine own_via (T82.setTop (mkF m 239 #[.val (.int i0), .val (.int i1), .val (.int i2), .val (.int i3), .val (.int i4), .val (.int (3 : Int32)), .val (.int pp), .val (.int z0), .val (.int z1), .val (.int z2), .val (.int z3), .val (.ref o64), .val (.int (1 : Int32)), .unset] [])) (fun t k => XS.istore X82.here hx rfl (hb hby at_237) rfl (l' := #[.val (.int i0), .val (.int i1), .val (.int i2), .val (.int i3), .val (.int i4), .val (.int (3 : Int32)), .val (.int pp), .val (.int z0), .val (.int z1), .val (.int z2), .val (.int z3), .val (.ref o64), .val (.int (1 : Int32)), .unset]) rfl k) ?_
              refine own_via (T82.setTop (mkF m 241 #[.val (.int i0), .val (.int i1), .val (.int i2), .val (.int i3), .val (.int i4), .val (.int (3 : Int32)), .val (.int pp), .val (.int z0), .val (.int z1), .val (.int z2), .val (.int z3), .val (.ref o64), .val (.int (1 : Int32)), .unset] [(.int (3 : Int32))])) (fun t k => XS.iload X82.here hx rfl (hb hby at_239) rfl k) ?_
              refine own_via (T82.setTop (mkF m 242 #[.val (.int i0), .val (.int i1), .val (.int i2), .val (.int i3), .val (.int i4), .val (.int (3 : Int32)), .val (.int pp), .val (.int z0), .val (.int z1), .val (.int z2), .val (.int z3), .val (.ref o64), .val (.int (1 : Int32)), .unset] [(.int (2 : Int32)), (.int (3 : Int32))])) (fun t k => XS.iconst X82.here hx rfl (hb hby at_241) k) ?_
              refine own_via (T82.setTop (mkF m 245 #[.val (.int i0), .val (.int i1), .val (.int i2), .val (.int i3), .val (.int i4), .val (.int (3 : Int32)), .val (.int pp), .val (.int z0), .val (.int z1), .val (.int z2), .val (.int z3), .val (.ref o64), .val (.int (1 : Int32)), .unset] [])) (fun t k => XS.icmpNo X82.here hx rfl (hb hby at_242) rfl (by decide) k) ?_
              refine own_via (T82.setTop (mkF m 247 #[.val (.int i0), .val (.int i1), .val (.int i2), .val (.int i3), .val (.int i4), .val (.int (3 : Int32)), .val (.int pp), .val (.int z0), .val (.int z1), .val (.int z2), .val (.int z3), .val (.ref o64), .val (.int (1 : Int32)), .unset] [(.int z2)])) (fun t k => XS.iload X82.here hx rfl (hb hby at_245) rfl k) ?_
              refine own_via (T82.setTop (mkF m 249 #[.val (.int i0), .val (.int i1), .val (.int i2), .val (.int i3), .val (.int i4), .val (.int (3 : Int32)), .val (.int pp), .val (.int z0), .val (.int z1), .val (.int z2), .val (.int z3), .val (.ref o64), .val (.int (1 : Int32)), .unset] [(.int (58 : Int32)), (.int z2)])) (fun t k => XS.bipush X82.here hx rfl (hb hby at_247) k) ?_
              by_cases q2 : z2 = (58 : Int32)
              · refine own_via (T82.setTop (mkF m 252 #[.val (.int i0), .val (.int i1), .val (.int i2), .val (.int i3), .val (.int i4), .val (.int (3 : Int32)), .val (.int pp), .val (.int z0), .val (.int z1), .val (.int z2), .val (.int z3), .val (.ref o64), .val (.int (1 : Int32)), .unset] [])) (fun t k => XS.icmpNo X82.here hx rfl (hb hby at_249) rfl (XT.ii_ne_f q2) k) ?_
                refine own_via (T82.setTop (mkF m 253 #[.val (.int i0), .val (.int i1), .val (.int i2), .val (.int i3), .val (.int i4), .val (.int (3 : Int32)), .val (.int pp), .val (.int z0), .val (.int z1), .val (.int z2), .val (.int z3), .val (.ref o64), .val (.int (1 : Int32)), .unset] [(.int (2 : Int32))])) (fun t k => XS.iconst X82.here hx rfl (hb hby at_252) k) ?_
                refine own_via (T82.setTop (mkF m 255 #[.val (.int i0), .val (.int i1), .val (.int i2), .val (.int i3), .val (.int i4), .val (.int (3 : Int32)), .val (.int pp), .val (.int z0), .val (.int z1), .val (.int z2), .val (.int z3), .val (.ref o64), .val (.int (2 : Int32)), .unset] [])) (fun t k => XS.istore X82.here hx rfl (hb hby at_253) rfl (l' := #[.val (.int i0), .val (.int i1), .val (.int i2), .val (.int i3), .val (.int i4), .val (.int (3 : Int32)), .val (.int pp), .val (.int z0), .val (.int z1), .val (.int z2), .val (.int z3), .val (.ref o64), .val (.int (2 : Int32)), .unset]) rfl k) ?_
                refine own_via (T82.setTop (mkF m 257 #[.val (.int i0), .val (.int i1), .val (.int i2), .val (.int i3), .val (.int i4), .val (.int (3 : Int32)), .val (.int pp), .val (.int z0), .val (.int z1), .val (.int z2), .val (.int z3), .val (.ref o64), .val (.int (2 : Int32)), .unset] [(.int (3 : Int32))])) (fun t k => XS.iload X82.here hx rfl (hb hby at_255) rfl k) ?_
                refine own_via (T82.setTop (mkF m 258 #[.val (.int i0), .val (.int i1), .val (.int i2), .val (.int i3), .val (.int i4), .val (.int (3 : Int32)), .val (.int pp), .val (.int z0), .val (.int z1), .val (.int z2), .val (.int z3), .val (.ref o64), .val (.int (2 : Int32)), .unset] [(.int (3 : Int32)), (.int (3 : Int32))])) (fun t k => XS.iconst X82.here hx rfl (hb hby at_257) k) ?_
                refine own_via (T82.setTop (mkF m 271 #[.val (.int i0), .val (.int i1), .val (.int i2), .val (.int i3), .val (.int i4), .val (.int (3 : Int32)), .val (.int pp), .val (.int z0), .val (.int z1), .val (.int z2), .val (.int z3), .val (.ref o64), .val (.int (2 : Int32)), .unset] [])) (fun t k => XS.icmpYes X82.here hx rfl (pc0 := 258) (pc' := 271) rfl (hb hby at_258) rfl (by decide) (by decide) (by decide) k) ?_
                exact J2 q2
              · refine own_via (T82.setTop (mkF m 255 #[.val (.int i0), .val (.int i1), .val (.int i2), .val (.int i3), .val (.int i4), .val (.int (3 : Int32)), .val (.int pp), .val (.int z0), .val (.int z1), .val (.int z2), .val (.int z3), .val (.ref o64), .val (.int (1 : Int32)), .unset] [])) (fun t k => XS.icmpYes X82.here hx rfl (pc0 := 249) (pc' := 255) rfl (hb hby at_249) rfl (XT.ii_ne_t q2) (by decide) (by decide) k) ?_
                refine own_via (T82.setTop (mkF m 257 #[.val (.int i0), .val (.int i1), .val (.int i2), .val (.int i3), .val (.int i4), .val (.int (3 : Int32)), .val (.int pp), .val (.int z0), .val (.int z1), .val (.int z2), .val (.int z3), .val (.ref o64), .val (.int (1 : Int32)), .unset] [(.int (3 : Int32))])) (fun t k => XS.iload X82.here hx rfl (hb hby at_255) rfl k) ?_
                refine own_via (T82.setTop (mkF m 258 #[.val (.int i0), .val (.int i1), .val (.int i2), .val (.int i3), .val (.int i4), .val (.int (3 : Int32)), .val (.int pp), .val (.int z0), .val (.int z1), .val (.int z2), .val (.int z3), .val (.ref o64), .val (.int (1 : Int32)), .unset] [(.int (3 : Int32)), (.int (3 : Int32))])) (fun t k => XS.iconst X82.here hx rfl (hb hby at_257) k) ?_
                refine own_via (T82.setTop (mkF m 271 #[.val (.int i0), .val (.int i1), .val (.int i2), .val (.int i3), .val (.int i4), .val (.int (3 : Int32)), .val (.int pp), .val (.int z0), .val (.int z1), .val (.int z2), .val (.int z3), .val (.ref o64), .val (.int (1 : Int32)), .unset] [])) (fun t k => XS.icmpYes X82.here hx rfl (pc0 := 258) (pc' := 271) rfl (hb hby at_258) rfl (by decide) (by decide) (by decide) k) ?_
                exact J1 q1 q2
            · refine own_via (T82.setTop (mkF m 239 #[.val (.int i0), .val (.int i1), .val (.int i2), .val (.int i3), .val (.int i4), .val (.int (3 : Int32)), .val (.int pp), .val (.int z0), .val (.int z1), .val (.int z2), .val (.int z3), .val (.ref o64), .val (.int (-1 : Int32)), .unset] [])) (fun t k => XS.icmpYes X82.here hx rfl (pc0 := 233) (pc' := 239) rfl (hb hby at_233) rfl (XT.ii_ne_t q1) (by decide) (by decide) k) ?_
              refine own_via (T82.setTop (mkF m 241 #[.val (.int i0), .val (.int i1), .val (.int i2), .val (.int i3), .val (.int i4), .val (.int (3 : Int32)), .val (.int pp), .val (.int z0), .val (.int z1), .val (.int z2), .val (.int z3), .val (.ref o64), .val (.int (-1 : Int32)), .unset] [(.int (3 : Int32))])) (fun t k => XS.iload X82.here hx rfl (hb hby at_239) rfl k) ?_
              refine own_via (T82.setTop (mkF m 242 #[.val (.int i0), .val (.int i1), .val (.int i2), .val (.int i3), .val (.int i4), .val (.int (3 : Int32)), .val (.int pp), .val (.int z0), .val (.int z1), .val (.int z2), .val (.int z3), .val (.ref o64), .val (.int (-1 : Int32)), .unset] [(.int (2 : Int32)), (.int (3 : Int32))])) (fun t k => XS.iconst X82.here hx rfl (hb hby at_241) k) ?_
              refine own_via (T82.setTop (mkF m 245 #[.val (.int i0), .val (.int i1), .val (.int i2), .val (.int i3), .val (.int i4), .val (.int (3 : Int32)), .val (.int pp), .val (.int z0), .val (.int z1), .val (.int z2), .val (.int z3), .val (.ref o64), .val (.int (-1 : Int32)), .unset] [])) (fun t k => XS.icmpNo X82.here hx rfl (hb hby at_242) rfl (by decide) k) ?_
              refine own_via (T82.setTop (mkF m 247 #[.val (.int i0), .val (.int i1), .val (.int i2), .val (.int i3), .val (.int i4), .val (.int (3 : Int32)), .val (.int pp), .val (.int z0), .val (.int z1), .val (.int z2), .val (.int z3), .val (.ref o64), .val (.int (-1 : Int32)), .unset] [(.int z2)])) (fun t k => XS.iload X82.here hx rfl (hb hby at_245) rfl k) ?_
              refine own_via (T82.setTop (mkF m 249 #[.val (.int i0), .val (.int i1), .val (.int i2), .val (.int i3), .val (.int i4), .val (.int (3 : Int32)), .val (.int pp), .val (.int z0), .val (.int z1), .val (.int z2), .val (.int z3), .val (.ref o64), .val (.int (-1 : Int32)), .unset] [(.int (58 : Int32)), (.int z2)])) (fun t k => XS.bipush X82.here hx rfl (hb hby at_247) k) ?_
              by_cases q2 : z2 = (58 : Int32)
              · refine own_via (T82.setTop (mkF m 252 #[.val (.int i0), .val (.int i1), .val (.int i2), .val (.int i3), .val (.int i4), .val (.int (3 : Int32)), .val (.int pp), .val (.int z0), .val (.int z1), .val (.int z2), .val (.int z3), .val (.ref o64), .val (.int (-1 : Int32)), .unset] [])) (fun t k => XS.icmpNo X82.here hx rfl (hb hby at_249) rfl (XT.ii_ne_f q2) k) ?_
                refine own_via (T82.setTop (mkF m 253 #[.val (.int i0), .val (.int i1), .val (.int i2), .val (.int i3), .val (.int i4), .val (.int (3 : Int32)), .val (.int pp), .val (.int z0), .val (.int z1), .val (.int z2), .val (.int z3), .val (.ref o64), .val (.int (-1 : Int32)), .unset] [(.int (2 : Int32))])) (fun t k => XS.iconst X82.here hx rfl (hb hby at_252) k) ?_
                refine own_via (T82.setTop (mkF m 255 #[.val (.int i0), .val (.int i1), .val (.int i2), .val (.int i3), .val (.int i4), .val (.int (3 : Int32)), .val (.int pp), .val (.int z0), .val (.int z1), .val (.int z2), .val (.int z3), .val (.ref o64), .val (.int (2 : Int32)), .unset] [])) (fun t k => XS.istore X82.here hx rfl (hb hby at_253) rfl (l' := #[.val (.int i0), .val (.int i1), .val (.int i2), .val (.int i3), .val (.int i4), .val (.int (3 : Int32)), .val (.int pp), .val (.int z0), .val (.int z1), .val (.int z2), .val (.int z3), .val (.ref o64), .val (.int (2 : Int32)), .unset]) rfl k) ?_
                refine own_via (T82.setTop (mkF m 257 #[.val (.int i0), .val (.int i1), .val (.int i2), .val (.int i3), .val (.int i4), .val (.int (3 : Int32)), .val (.int pp), .val (.int z0), .val (.int z1), .val (.int z2), .val (.int z3), .val (.ref o64), .val (.int (2 : Int32)), .unset] [(.int (3 : Int32))])) (fun t k => XS.iload X82.here hx rfl (hb hby at_255) rfl k) ?_
                refine own_via (T82.setTop (mkF m 258 #[.val (.int i0), .val (.int i1), .val (.int i2), .val (.int i3), .val (.int i4), .val (.int (3 : Int32)), .val (.int pp), .val (.int z0), .val (.int z1), .val (.int z2), .val (.int z3), .val (.ref o64), .val (.int (2 : Int32)), .unset] [(.int (3 : Int32)), (.int (3 : Int32))])) (fun t k => XS.iconst X82.here hx rfl (hb hby at_257) k) ?_
                refine own_via (T82.setTop (mkF m 271 #[.val (.int i0), .val (.int i1), .val (.int i2), .val (.int i3), .val (.int i4), .val (.int (3 : Int32)), .val (.int pp), .val (.int z0), .val (.int z1), .val (.int z2), .val (.int z3), .val (.ref o64), .val (.int (2 : Int32)), .unset] [])) (fun t k => XS.icmpYes X82.here hx rfl (pc0 := 258) (pc' := 271) rfl (hb hby at_258) rfl (by decide) (by decide) (by decide) k) ?_
                exact J2 q2
              · refine own_via (T82.setTop (mkF m 255 #[.val (.int i0), .val (.int i1), .val (.int i2), .val (.int i3), .val (.int i4), .val (.int (3 : Int32)), .val (.int pp), .val (.int z0), .val (.int z1), .val (.int z2), .val (.int z3), .val (.ref o64), .val (.int (-1 : Int32)), .unset] [])) (fun t k => XS.icmpYes X82.here hx rfl (pc0 := 249) (pc' := 255) rfl (hb hby at_249) rfl (XT.ii_ne_t q2) (by decide) (by decide) k) ?_
                refine own_via (T82.setTop (mkF m 257 #[.val (.int i0), .val (.int i1), .val (.int i2), .val (.int i3), .val (.int i4), .val (.int (3 : Int32)), .val (.int pp), .val (.int z0), .val (.int z1), .val (.int z2), .val (.int z3), .val (.ref o64), .val (.int (-1 : Int32)), .unset] [(.int (3 : Int32))])) (fun t k => XS.iload X82.here hx rfl (hb hby at_255) rfl k) ?_
                refine own_via (T82.setTop (mkF m 258 #[.val (.int i0), .val (.int i1), .val (.int i2), .val (.int i3), .val (.int i4), .val (.int (3 : Int32)), .val (.int pp), .val (.int z0), .val (.int z1), .val (.int z2), .val (.int z3), .val (.ref o64), .val (.int (-1 : Int32)), .unset] [(.int (3 : Int32)), (.int (3 : Int32))])) (fun t k => XS.iconst X82.here hx rfl (hb hby at_257) k) ?_
                refine own_via (T82.setTop (mkF m 271 #[.val (.int i0), .val (.int i1), .val (.int i2), .val (.int i3), .val (.int i4), .val (.int (3 : Int32)), .val (.int pp), .val (.int z0), .val (.int z1), .val (.int z2), .val (.int z3), .val (.ref o64), .val (.int (-1 : Int32)), .unset] [])) (fun t k => XS.icmpYes X82.here hx rfl (pc0 := 258) (pc' := 271) rfl (hb hby at_258) rfl (by decide) (by decide) (by decide) k) ?_
                exact absurd hcol (by simp [own_has, q0, q1, q2])
        · by_cases hn4 : nn = 4
          · have hn := hn4
            subst hn
            refine own_via (T4.setTop (mkF m 87 #[.val (.int i0), .val (.int i1), .val (.int i2), .val (.int i3), .val (.int i4), .val (.int (4 : Int32)), .val (.int pp), .val (.int z0), .val (.int z1), .val (.int z2), .val (.int z3), .unset, .unset, .unset] [(.int (4 : Int32))])) (fun t k => XS.iload X4.here hx rfl (hb hby at_85) rfl k) ?_
            refine own_via (T4.setTop (mkF m 88 #[.val (.int i0), .val (.int i1), .val (.int i2), .val (.int i3), .val (.int i4), .val (.int (4 : Int32)), .val (.int pp), .val (.int z0), .val (.int z1), .val (.int z2), .val (.int z3), .unset, .unset, .unset] [(.int (1 : Int32)), (.int (4 : Int32))])) (fun t k => XS.iconst X4.here hx rfl (hb hby at_87) k) ?_
            refine own_via (T4.setTop (mkF m 111 #[.val (.int i0), .val (.int i1), .val (.int i2), .val (.int i3), .val (.int i4), .val (.int (4 : Int32)), .val (.int pp), .val (.int z0), .val (.int z1), .val (.int z2), .val (.int z3), .unset, .unset, .unset] [])) (fun t k => XS.icmpYes X4.here hx rfl (pc0 := 88) (pc' := 111) rfl (hb hby at_88) rfl (by decide) (by decide) (by decide) k) ?_
            refine own_via (T4.setTop (mkF m 113 #[.val (.int i0), .val (.int i1), .val (.int i2), .val (.int i3), .val (.int i4), .val (.int (4 : Int32)), .val (.int pp), .val (.int z0), .val (.int z1), .val (.int z2), .val (.int z3), .unset, .unset, .unset] [(.int (4 : Int32))])) (fun t k => XS.iload X4.here hx rfl (hb hby at_111) rfl k) ?_
            refine own_via (T4.setTop (mkF m 114 #[.val (.int i0), .val (.int i1), .val (.int i2), .val (.int i3), .val (.int i4), .val (.int (4 : Int32)), .val (.int pp), .val (.int z0), .val (.int z1), .val (.int z2), .val (.int z3), .unset, .unset, .unset] [(.int (2 : Int32)), (.int (4 : Int32))])) (fun t k => XS.iconst X4.here hx rfl (hb hby at_113) k) ?_
            refine own_via (T4.setTop (mkF m 142 #[.val (.int i0), .val (.int i1), .val (.int i2), .val (.int i3), .val (.int i4), .val (.int (4 : Int32)), .val (.int pp), .val (.int z0), .val (.int z1), .val (.int z2), .val (.int z3), .unset, .unset, .unset] [])) (fun t k => XS.icmpYes X4.here hx rfl (pc0 := 114) (pc' := 142) rfl (hb hby at_114) rfl (by decide) (by decide) (by decide) k) ?_
            refine own_via (T4.setTop (mkF m 144 #[.val (.int i0), .val (.int i1), .val (.int i2), .val (.int i3), .val (.int i4), .val (.int (4 : Int32)), .val (.int pp), .val (.int z0), .val (.int z1), .val (.int z2), .val (.int z3), .unset, .unset, .unset] [(.int (4 : Int32))])) (fun t k => XS.iload X4.here hx rfl (hb hby at_142) rfl k) ?_
            refine own_via (T4.setTop (mkF m 145 #[.val (.int i0), .val (.int i1), .val (.int i2), .val (.int i3), .val (.int i4), .val (.int (4 : Int32)), .val (.int pp), .val (.int z0), .val (.int z1), .val (.int z2), .val (.int z3), .unset, .unset, .unset] [(.int (3 : Int32)), (.int (4 : Int32))])) (fun t k => XS.iconst X4.here hx rfl (hb hby at_144) k) ?_
            refine own_via (T4.setTop (mkF m 178 #[.val (.int i0), .val (.int i1), .val (.int i2), .val (.int i3), .val (.int i4), .val (.int (4 : Int32)), .val (.int pp), .val (.int z0), .val (.int z1), .val (.int z2), .val (.int z3), .unset, .unset, .unset] [])) (fun t k => XS.icmpYes X4.here hx rfl (pc0 := 145) (pc' := 178) rfl (hb hby at_145) rfl (by decide) (by decide) (by decide) k) ?_
            obtain ⟨T122, h122, X122, e122, E122, A122, D122, U122, st122⟩ := newO X4 hx hZ hown (hw _ (List.mem_of_getElem? (i := 4) rfl)) (hw _ (List.mem_of_getElem? (i := 5) rfl)) (hw _ (List.mem_of_getElem? (i := 6) rfl)) e4 (g := (mkF m 178 #[.val (.int i0), .val (.int i1), .val (.int i2), .val (.int i3), .val (.int i4), .val (.int (4 : Int32)), .val (.int pp), .val (.int z0), .val (.int z1), .val (.int z2), .val (.int z3), .unset, .unset, .unset] [])) rfl (hb hby at_178) (by decide) (by decide)
            obtain ⟨o122, g122⟩ : ∃ z, z = h0.size := ⟨_, rfl⟩
            rw [← g122] at A122 D122 U122 st122
            have sz_h122 : h0.size ≤ h122.size := E122.1
            have B_h122 : CHr Z own_EL s.vm h0 s.vm h122 := CHr.ext E122 C0.1
            have C_h122 : CHr Z own_EL s.vm h0 s.vm h122 := C0.trans B_h122
            have sf_o122_h122 : Safe Z own_EL s.vm h122 o122 := Safe.ext E122 C0.1 (Safe.new (Nat.le_of_eq g122.symm))
            have lt_o122 : @LT.lt Nat _ o122 h122.size := A122.lt
            refine own_via (T122.setTop (mkF m 181 #[.val (.int i0), .val (.int i1), .val (.int i2), .val (.int i3), .val (.int i4), .val (.int (4 : Int32)), .val (.int pp), .val (.int z0), .val (.int z1), .val (.int z2), .val (.int z3), .unset, .unset, .unset] [(.ref o122)])) (st122) ?_
            refine own_via (T122.setTop (mkF m 182 #[.val (.int i0), .val (.int i1), .val (.int i2), .val (.int i3), .val (.int i4), .val (.int (4 : Int32)), .val (.int pp), .val (.int z0), .val (.int z1), .val (.int z2), .val (.int z3), .unset, .unset, .unset] [(.ref o122), (.ref o122)])) (fun t k => XS.dup X122.here hx rfl (hb hby at_181) rfl rfl k) ?_
            refine own_via (T122.setTop (mkF m 183 #[.val (.int i0), .val (.int i1), .val (.int i2), .val (.int i3), .val (.int i4), .val (.int (4 : Int32)), .val (.int pp), .val (.int z0), .val (.int z1), .val (.int z2), .val (.int z3), .unset, .unset, .unset] [(.int (4 : Int32)), (.ref o122), (.ref o122)])) (fun t k => XS.iconst X122.here hx rfl (hb hby at_182) k) ?_
            obtain ⟨T123, h123, k123, X123, e123, E123, A123, st123⟩ := newP X122 hx hZ (hw _ (List.mem_of_getElem? (i := 7) rfl)) e122 (g := (mkF m 183 #[.val (.int i0), .val (.int i1), .val (.int i2), .val (.int i3), .val (.int i4), .val (.int (4 : Int32)), .val (.int pp), .val (.int z0), .val (.int z1), .val (.int z2), .val (.int z3), .unset, .unset, .unset] [(.int (4 : Int32)), (.ref o122), (.ref o122)])) rfl (hb hby at_183) rfl (by decide) (cap := 4) (by decide) (by decide) (by decide) (by decide)
            obtain ⟨o123, g123⟩ : ∃ z, z = h122.size := ⟨_, rfl⟩
            rw [← g123] at A123 st123
            have sz_h123 : h122.size ≤ h123.size := E123.1
            have B_h123 : CHr Z own_EL s.vm h122 s.vm h123 := CHr.ext E123 C_h122.1
            have C_h123 : CHr Z own_EL s.vm h0 s.vm h123 := C_h122.trans B_h123
            have sf_o122_h123 : Safe Z own_EL s.vm h123 o122 := B_h123.safe (show @LT.lt Nat _ _ _ by omega) sf_o122_h122
            have sf_o123_h123 : Safe Z own_EL s.vm h123 o123 := Safe.ext E123 C_h122.1 (Safe.new (Nat.le_of_eq g123.symm))
            have V123 : Arv Z h123 o123 k123 .char (4 : Int32) [] (.int (0 : Int32)) := Arv.new A123 (by decide)
            have lt_o123 : @LT.lt Nat _ o123 h123.size := V123.lt
            refine own_via (T123.setTop (mkF m 185 #[.val (.int i0), .val (.int i1), .val (.int i2), .val (.int i3), .val (.int i4), .val (.int (4 : Int32)), .val (.int pp), .val (.int z0), .val (.int z1), .val (.int z2), .val (.int z3), .unset, .unset, .unset] [(.ref o123), (.ref o122), (.ref o122)])) (st123) ?_
            refine own_via (T123.setTop (mkF m 186 #[.val (.int i0), .val (.int i1), .val (.int i2), .val (.int i3), .val (.int i4), .val (.int (4 : Int32)), .val (.int pp), .val (.int z0), .val (.int z1), .val (.int z2), .val (.int z3), .unset, .unset, .unset] [(.ref o123), (.ref o123), (.ref o122), (.ref o122)])) (fun t k => XS.dup X123.here hx rfl (hb hby at_185) rfl rfl k) ?_
            refine own_via (T123.setTop (mkF m 187 #[.val (.int i0), .val (.int i1), .val (.int i2), .val (.int i3), .val (.int i4), .val (.int (4 : Int32)), .val (.int pp), .val (.int z0), .val (.int z1), .val (.int z2), .val (.int z3), .unset, .unset, .unset] [(.int (0 : Int32)), (.ref o123), (.ref o123), (.ref o122), (.ref o122)])) (fun t k => XS.iconst X123.here hx rfl (hb hby at_186) k) ?_
            refine own_via (T123.setTop (mkF m 189 #[.val (.int i0), .val (.int i1), .val (.int i2), .val (.int i3), .val (.int i4), .val (.int (4 : Int32)), .val (.int pp), .val (.int z0), .val (.int z1), .val (.int z2), .val (.int z3), .unset, .unset, .unset] [(.int z0), (.int (0 : Int32)), (.ref o123), (.ref o123), (.ref o122), (.ref o122)])) (fun t k => XS.iload X123.here hx rfl (hb hby at_187) rfl k) ?_
            have V124 : Arv Z h123 o123 k123 .char (4 : Int32) [(.int (0 : Int32))] (.int (0 : Int32)) := V123.pad (pad_rep [] (.int (0 : Int32)) 1)
            obtain ⟨c125, A125, q125, S125, M125, H125, U125⟩ := id V124
            obtain ⟨T126, h126, X126, e126, W126, st126⟩ := stC X123 hx hZ e123 A125 (j := (0 : Int32)) (inb_of S125 ⟨(by decide), (by decide)⟩) (g := (mkF m 189 #[.val (.int i0), .val (.int i1), .val (.int i2), .val (.int i3), .val (.int i4), .val (.int (4 : Int32)), .val (.int pp), .val (.int z0), .val (.int z1), .val (.int z2), .val (.int z3), .unset, .unset, .unset] [(.int z0), (.int (0 : Int32)), (.ref o123), (.ref o123), (.ref o122), (.ref o122)])) rfl rfl (hb hby at_189)
            have N126 := Fr.snoc X126 N4 (show @LE.le Nat _ _ _ by omega)
            have sz_h126 : h126.size = h123.size := Wr.size W126
            have B_h126 : CHr Z own_EL s.vm h123 s.vm h126 := CHr.wr W126 sf_o123_h123 C_h123.1
            have C_h126 : CHr Z own_EL s.vm h0 s.vm h126 := C_h123.trans B_h126
            have sf_o122_h126 : Safe Z own_EL s.vm h126 o122 := B_h126.safe (show @LT.lt Nat _ _ _ by omega) sf_o122_h123
            have sf_o123_h126 : Safe Z own_EL s.vm h126 o123 := B_h126.safe (show @LT.lt Nat _ _ _ by omega) sf_o123_h123
            have f127 : Arv Z h126 o123 k123 .char (4 : Int32) [(.int (nar .char z0))] (.int (0 : Int32)) := Arv.set A125 q125 S125 M125 H125 U125 (fits_nar_char _) W126 0 rfl (Nat.le_of_ble_eq_true rfl)
            rw [own_narc r0] at f127
            refine own_via (T126.setTop (mkF m 190 #[.val (.int i0), .val (.int i1), .val (.int i2), .val (.int i3), .val (.int i4), .val (.int (4 : Int32)), .val (.int pp), .val (.int z0), .val (.int z1), .val (.int z2), .val (.int z3), .unset, .unset, .unset] [(.ref o123), (.ref o122), (.ref o122)])) (st126) ?_
            refine own_via (T126.setTop (mkF m 191 #[.val (.int i0), .val (.int i1), .val (.int i2), .val (.int i3), .val (.int i4), .val (.int (4 : Int32)), .val (.int pp), .val (.int z0), .val (.int z1), .val (.int z2), .val (.int z3), .unset, .unset, .unset] [(.ref o123), (.ref o123), (.ref o122), (.ref o122)])) (fun t k => XS.dup X126.here hx rfl (hb hby at_190) rfl rfl k) ?_
            refine own_via (T126.setTop (mkF m 192 #[.val (.int i0), .val (.int i1), .val (.int i2), .val (.int i3), .val (.int i4), .val (.int (4 : Int32)), .val (.int pp), .val (.int z0), .val (.int z1), .val (.int z2), .val (.int z3), .unset, .unset, .unset] [(.int (1 : Int32)), (.ref o123), (.ref o123), (.ref o122), (.ref o122)])) (fun t k => XS.iconst X126.here hx rfl (hb hby at_191) k) ?_
            refine own_via (T126.setTop (mkF m 194 #[.val (.int i0), .val (.int i1), .val (.int i2), .val (.int i3), .val (.int i4), .val (.int (4 : Int32)), .val (.int pp), .val (.int z0), .val (.int z1), .val (.int z2), .val (.int z3), .unset, .unset, .unset] [(.int z1), (.int (1 : Int32)), (.ref o123), (.ref o123), (.ref o122), (.ref o122)])) (fun t k => XS.iload X126.here hx rfl (hb hby at_192) rfl k) ?_
            have V128 : Arv Z h126 o123 k123 .char (4 : Int32) [(.int z0), (.int (0 : Int32))] (.int (0 : Int32)) := f127.pad (pad_rep [(.int z0)] (.int (0 : Int32)) 1)
            obtain ⟨c129, A129, q129, S129, M129, H129, U129⟩ := id V128
            obtain ⟨T130, h130, X130, e130, W130, st130⟩ := stC X126 hx hZ e126 A129 (j := (1 : Int32)) (inb_of S129 ⟨(by decide), (by decide)⟩) (g := (mkF m 194 #[.val (.int i0), .val (.int i1), .val (.int i2), .val (.int i3), .val (.int i4), .val (.int (4 : Int32)), .val (.int pp), .val (.int z0), .val (.int z1), .val (.int z2), .val (.int z3), .unset, .unset, .unset] [(.int z1), (.int (1 : Int32)), (.ref o123), (.ref o123), (.ref o122), (.ref o122)])) rfl rfl (hb hby at_194)
            have N130 := Fr.snoc X130 N126 (show @LE.le Nat _ _ _ by omega)
            have sz_h130 : h130.size = h126.size := Wr.size W130
            have B_h130 : CHr Z own_EL s.vm h126 s.vm h130 := CHr.wr W130 sf_o123_h126 C_h126.1
            have C_h130 : CHr Z own_EL s.vm h0 s.vm h130 := C_h126.trans B_h130
            have sf_o122_h130 : Safe Z own_EL s.vm h130 o122 := B_h130.safe (show @LT.lt Nat _ _ _ by omega) sf_o122_h126
            have sf_o123_h130 : Safe Z own_EL s.vm h130 o123 := B_h130.safe (show @LT.lt Nat _ _ _ by omega) sf_o123_h126
            have f131 : Arv Z h130 o123 k123 .char (4 : Int32) [(.int z0), (.int (nar .char z1))] (.int (0 : Int32)) := Arv.set A129 q129 S129 M129 H129 U129 (fits_nar_char _) W130 1 rfl (Nat.le_of_ble_eq_true rfl)
            rw [own_narc r1] at f131
            refine own_via (T130.setTop (mkF m 195 #[.val (.int i0), .val (.int i1), .val (.int i2), .val (.int i3), .val (.int i4), .val (.int (4 : Int32)), .val (.int pp), .val (.int z0), .val (.int z1), .val (.int z2), .val (.int z3), .unset, .unset, .unset] [(.ref o123), (.ref o122), (.ref o122)])) (st130) ?_
            refine own_via (T130.setTop (mkF m 196 #[.val (.int i0), .val (.int i1), .val (.int i2), .val (.int i3), .val (.int i4), .val (.int (4 : Int32)), .val (.int pp), .val (.int z0), .val (.int z1), .val (.int z2), .val (.int z3), .unset, .unset, .unset] [(.ref o123), (.ref o123), (.ref o122), (.ref o122)])) (fun t k => XS.dup X130.here hx rfl (hb hby at_195) rfl rfl k) ?_
            refine own_via (T130.setTop (mkF m 197 #[.val (.int i0), .val (.int i1), .val (.int i2), .val (.int i3), .val (.int i4), .val (.int (4 : Int32)), .val (.int pp), .val (.int z0), .val (.int z1), .val (.int z2), .val (.int z3), .unset, .unset, .unset] [(.int (2 : Int32)), (.ref o123), (.ref o123), (.ref o122), (.ref o122)])) (fun t k => XS.iconst X130.here hx rfl (hb hby at_196) k) ?_
            refine own_via (T130.setTop (mkF m 199 #[.val (.int i0), .val (.int i1), .val (.int i2), .val (.int i3), .val (.int i4), .val (.int (4 : Int32)), .val (.int pp), .val (.int z0), .val (.int z1), .val (.int z2), .val (.int z3), .unset, .unset, .unset] [(.int z2), (.int (2 : Int32)), (.ref o123), (.ref o123), (.ref o122), (.ref o122)])) (fun t k => XS.iload X130.here hx rfl (hb hby at_197) rfl k) ?_
            have V132 : Arv Z h130 o123 k123 .char (4 : Int32) [(.int z0), (.int z1), (.int (0 : Int32))] (.int (0 : Int32)) := f131.pad (pad_rep [(.int z0), (.int z1)] (.int (0 : Int32)) 1)
            obtain ⟨c133, A133, q133, S133, M133, H133, U133⟩ := id V132
            obtain ⟨T134, h134, X134, e134, W134, st134⟩ := stC X130 hx hZ e130 A133 (j := (2 : Int32)) (inb_of S133 ⟨(by decide), (by decide)⟩) (g := (mkF m 199 #[.val (.int i0), .val (.int i1), .val (.int i2), .val (.int i3), .val (.int i4), .val (.int (4 : Int32)), .val (.int pp), .val (.int z0), .val (.int z1), .val (.int z2), .val (.int z3), .unset, .unset, .unset] [(.int z2), (.int (2 : Int32)), (.ref o123), (.ref o123), (.ref o122), (.ref o122)])) rfl rfl (hb hby at_199)
            have N134 := Fr.snoc X134 N130 (show @LE.le Nat _ _ _ by omega)
            have sz_h134 : h134.size = h130.size := Wr.size W134
            have B_h134 : CHr Z own_EL s.vm h130 s.vm h134 := CHr.wr W134 sf_o123_h130 C_h130.1
            have C_h134 : CHr Z own_EL s.vm h0 s.vm h134 := C_h130.trans B_h134
            have sf_o122_h134 : Safe Z own_EL s.vm h134 o122 := B_h134.safe (show @LT.lt Nat _ _ _ by omega) sf_o122_h130
            have sf_o123_h134 : Safe Z own_EL s.vm h134 o123 := B_h134.safe (show @LT.lt Nat _ _ _ by omega) sf_o123_h130
            have f135 : Arv Z h134 o123 k123 .char (4 : Int32) [(.int z0), (.int z1), (.int (nar .char z2))] (.int (0 : Int32)) := Arv.set A133 q133 S133 M133 H133 U133 (fits_nar_char _) W134 2 rfl (Nat.le_of_ble_eq_true rfl)
            rw [own_narc r2] at f135
            refine own_via (T134.setTop (mkF m 200 #[.val (.int i0), .val (.int i1), .val (.int i2), .val (.int i3), .val (.int i4), .val (.int (4 : Int32)), .val (.int pp), .val (.int z0), .val (.int z1), .val (.int z2), .val (.int z3), .unset, .unset, .unset] [(.ref o123), (.ref o122), (.ref o122)])) (st134) ?_
            refine own_via (T134.setTop (mkF m 201 #[.val (.int i0), .val (.int i1), .val (.int i2), .val (.int i3), .val (.int i4), .val (.int (4 : Int32)), .val (.int pp), .val (.int z0), .val (.int z1), .val (.int z2), .val (.int z3), .unset, .unset, .unset] [(.ref o123), (.ref o123), (.ref o122), (.ref o122)])) (fun t k => XS.dup X134.here hx rfl (hb hby at_200) rfl rfl k) ?_
            refine own_via (T134.setTop (mkF m 202 #[.val (.int i0), .val (.int i1), .val (.int i2), .val (.int i3), .val (.int i4), .val (.int (4 : Int32)), .val (.int pp), .val (.int z0), .val (.int z1), .val (.int z2), .val (.int z3), .unset, .unset, .unset] [(.int (3 : Int32)), (.ref o123), (.ref o123), (.ref o122), (.ref o122)])) (fun t k => XS.iconst X134.here hx rfl (hb hby at_201) k) ?_
            refine own_via (T134.setTop (mkF m 204 #[.val (.int i0), .val (.int i1), .val (.int i2), .val (.int i3), .val (.int i4), .val (.int (4 : Int32)), .val (.int pp), .val (.int z0), .val (.int z1), .val (.int z2), .val (.int z3), .unset, .unset, .unset] [(.int z3), (.int (3 : Int32)), (.ref o123), (.ref o123), (.ref o122), (.ref o122)])) (fun t k => XS.iload X134.here hx rfl (hb hby at_202) rfl k) ?_
            have V136 : Arv Z h134 o123 k123 .char (4 : Int32) [(.int z0), (.int z1), (.int z2), (.int (0 : Int32))] (.int (0 : Int32)) := f135.pad (pad_rep [(.int z0), (.int z1), (.int z2)] (.int (0 : Int32)) 1)
            obtain ⟨c137, A137, q137, S137, M137, H137, U137⟩ := id V136
            obtain ⟨T138, h138, X138, e138, W138, st138⟩ := stC X134 hx hZ e134 A137 (j := (3 : Int32)) (inb_of S137 ⟨(by decide), (by decide)⟩) (g := (mkF m 204 #[.val (.int i0), .val (.int i1), .val (.int i2), .val (.int i3), .val (.int i4), .val (.int (4 : Int32)), .val (.int pp), .val (.int z0), .val (.int z1), .val (.int z2), .val (.int z3), .unset, .unset, .unset] [(.int z3), (.int (3 : Int32)), (.ref o123), (.ref o123), (.ref o122), (.ref o122)])) rfl rfl (hb hby at_204)
            have N138 := Fr.snoc X138 N134 (show @LE.le Nat _ _ _ by omega)
            have sz_h138 : h138.size = h134.size := Wr.size W138
            have B_h138 : CHr Z own_EL s.vm h134 s.vm h138 := CHr.wr W138 sf_o123_h134 C_h134.1
            have C_h138 : CHr Z own_EL s.vm h0 s.vm h138 := C_h134.trans B_h138
            have sf_o122_h138 : Safe Z own_EL s.vm h138 o122 := B_h138.safe (show @LT.lt Nat _ _ _ by omega) sf_o122_h134
            have sf_o123_h138 : Safe Z own_EL s.vm h138 o123 := B_h138.safe (show @LT.lt Nat _ _ _ by omega) sf_o123_h134
            have f139 : Arv Z h138 o123 k123 .char (4 : Int32) [(.int z0), (.int z1), (.int z2), (.int (nar .char z3))] (.int (0 : Int32)) := Arv.set A137 q137 S137 M137 H137 U137 (fits_nar_char _) W138 3 rfl (Nat.le_of_ble_eq_true rfl)
            rw [own_narc r3] at f139
            refine own_via (T138.setTop (mkF m 205 #[.val (.int i0), .val (.int i1), .val (.int i2), .val (.int i3), .val (.int i4), .val (.int (4 : Int32)), .val (.int pp), .val (.int z0), .val (.int z1), .val (.int z2), .val (.int z3), .unset, .unset, .unset] [(.ref o123), (.ref o122), (.ref o122)])) (st138) ?_
            have hp : ∀ c ∈ ([z0, z1, z2, z3] : List Int32), ¬ c < 0 ∧ ¬ (255 : Int32) < c := by
              intro c hc
              simp only [List.mem_cons, List.not_mem_nil, or_false] at hc
              rcases hc with rfl | rfl | rfl | rfl
              · exact r0
              · exact r1
              · exact r2
              · exact r3
            have f140 : Exa Z h138 o122 "java/lang/String" := (((((A122.ext E123).wr W126).wr W130).wr W134).wr W138)
            have f141 : Fld Z h138 o122 "java/lang/String" "value" "[B" .null := ((((((D122 (Or.inr (hw _ (List.mem_of_getElem? (i := 33) rfl))) (ty := (.array .byte)) (by decide)).ext E123).other W126 (Or.inl (show @Ne Nat _ _ by omega))).other W130 (Or.inl (show @Ne Nat _ _ by omega))).other W134 (Or.inl (show @Ne Nat _ _ by omega))).other W138 (Or.inl (show @Ne Nat _ _ by omega)))
            have f142 : Fld Z h138 o122 "java/lang/String" "coder" "B" (.int (0 : Int32)) := ((((((D122 (Or.inr (hw _ (List.mem_of_getElem? (i := 31) rfl))) (ty := .byte) (by decide)).ext E123).other W126 (Or.inl (show @Ne Nat _ _ by omega))).other W130 (Or.inl (show @Ne Nat _ _ by omega))).other W134 (Or.inl (show @Ne Nat _ _ by omega))).other W138 (Or.inl (show @Ne Nat _ _ by omega)))
            have f143 : Old Z n0 h138 := ((((((pf2.ext E122).ext E123).wr W126 (show @LE.le Nat _ _ _ by omega)).wr W130 (show @LE.le Nat _ _ _ by omega)).wr W134 (show @LE.le Nat _ _ _ by omega)).wr W138 (show @LE.le Nat _ _ _ by omega))
            obtain ⟨v144, T144, h144, L144, X144, e144, q144, st144⟩ := own_cI X138 hx hZ hown (hw _ (List.mem_of_getElem? (i := 8) rfl)) (hw _ (List.mem_of_getElem? (i := 9) rfl)) (hw _ (List.mem_of_getElem? (i := 10) rfl)) rfl (by decide) (W := 1) (StrChars.Road.backV hZ (own_hws hw) (kI := 4) (hw _ (List.mem_of_getElem? (i := 5) rfl)) (cs := ([z0, z1, z2, z3] : List Int32)) (bs := (([z0, z1, z2, z3] : List Int32)).map (fun c => c.toInt8.toInt32)) (n := 4) (n0 := n0) (by omega) (by omega) f140 f141 f142 f139 (pf0.ext f143.2) hG1 rfl rfl (by decide) (by decide) hp rfl (by decide) (by decide)) e138 (a := o122) (Ls := #[.val (.int i0), .val (.int i1), .val (.int i2), .val (.int i3), .val (.int i4), .val (.int (4 : Int32)), .val (.int pp), .val (.int z0), .val (.int z1), .val (.int z2), .val (.int z3), .unset, .unset, .unset]) (by rw [hml]; rfl) (argsL := [(.ref o123)]) (rest := [(.ref o122)]) rfl (lenOf own_pd95987610 rfl) rfl (Nat.le_of_eq rfl) (hb hby at_205) (by decide) (by decide)
            obtain ⟨rfl, Nq144, Kq144, fE144, fC144, t144, kb144, u144, w144, n144, fV144, fA144⟩ := q144
            have N144 := Fr.app N138 Nq144
            have sz_h144 : h138.size ≤ h144.size := Kq144.1
            have B_h144 : CHr Z own_EL s.vm h138 s.vm h144 := CHr.keep Kq144 (sfS sf_o122_h138 sf0) C_h138.1
            have C_h144 : CHr Z own_EL s.vm h0 s.vm h144 := C_h138.trans B_h144
            have sf_o122_h144 : Safe Z own_EL s.vm h144 o122 := B_h144.safe (show @LT.lt Nat _ _ _ by omega) sf_o122_h138
            have sf_o123_h144 : Safe Z own_EL s.vm h144 o123 := B_h144.safe (show @LT.lt Nat _ _ _ by omega) sf_o123_h138
            have lt_t144 : @LT.lt Nat _ t144 h144.size := fA144.lt
            refine own_via (T144.setTop (mkF m 208 #[.val (.int i0), .val (.int i1), .val (.int i2), .val (.int i3), .val (.int i4), .val (.int (4 : Int32)), .val (.int pp), .val (.int z0), .val (.int z1), .val (.int z2), .val (.int z3), .unset, .unset, .unset] [(.ref o122)])) (st144) ?_
            refine own_via (T144.setTop (mkF m 210 #[.val (.int i0), .val (.int i1), .val (.int i2), .val (.int i3), .val (.int i4), .val (.int (4 : Int32)), .val (.int pp), .val (.int z0), .val (.int z1), .val (.int z2), .val (.int z3), .val (.ref o122), .unset, .unset] [])) (fun t k => XS.astore X144.here hx rfl (hb hby at_208) rfl rfl (l' := #[.val (.int i0), .val (.int i1), .val (.int i2), .val (.int i3), .val (.int i4), .val (.int (4 : Int32)), .val (.int pp), .val (.int z0), .val (.int z1), .val (.int z2), .val (.int z3), .val (.ref o122), .unset, .unset]) rfl k) ?_
            refine own_via (T144.setTop (mkF m 211 #[.val (.int i0), .val (.int i1), .val (.int i2), .val (.int i3), .val (.int i4), .val (.int (4 : Int32)), .val (.int pp), .val (.int z0), .val (.int z1), .val (.int z2), .val (.int z3), .val (.ref o122), .unset, .unset] [(.int (-1 : Int32))])) (fun t k => XS.iconst X144.here hx rfl (hb hby at_210) k) ?_
            refine own_via (T144.setTop (mkF m 213 #[.val (.int i0), .val (.int i1), .val (.int i2), .val (.int i3), .val (.int i4), .val (.int (4 : Int32)), .val (.int pp), .val (.int z0), .val (.int z1), .val (.int z2), .val (.int z3), .val (.ref o122), .val (.int (-1 : Int32)), .unset] [])) (fun t k => XS.istore X144.here hx rfl (hb hby at_211) rfl (l' := #[.val (.int i0), .val (.int i1), .val (.int i2), .val (.int i3), .val (.int i4), .val (.int (4 : Int32)), .val (.int pp), .val (.int z0), .val (.int z1), .val (.int z2), .val (.int z3), .val (.ref o122), .val (.int (-1 : Int32)), .unset]) rfl k) ?_
            refine own_via (T144.setTop (mkF m 215 #[.val (.int i0), .val (.int i1), .val (.int i2), .val (.int i3), .val (.int i4), .val (.int (4 : Int32)), .val (.int pp), .val (.int z0), .val (.int z1), .val (.int z2), .val (.int z3), .val (.ref o122), .val (.int (-1 : Int32)), .unset] [(.int z0)])) (fun t k => XS.iload X144.here hx rfl (hb hby at_213) rfl k) ?_
            refine own_via (T144.setTop (mkF m 217 #[.val (.int i0), .val (.int i1), .val (.int i2), .val (.int i3), .val (.int i4), .val (.int (4 : Int32)), .val (.int pp), .val (.int z0), .val (.int z1), .val (.int z2), .val (.int z3), .val (.ref o122), .val (.int (-1 : Int32)), .unset] [(.int (58 : Int32)), (.int z0)])) (fun t k => XS.bipush X144.here hx rfl (hb hby at_215) k) ?_
            have J0 :  (z0 = 58) → (¬ z1 = 58) → (¬ z2 = 58) → (¬ z3 = 58) → own_Ends p.tables e below (own_PostH Z own_EL s h0 (Q_rm_law Z i0 i1 i2 i3 i4 G1 fm h0 n0) room_1.cells room_1.slots) (T144.setTop (mkF m 271 #[.val (.int i0), .val (.int i1), .val (.int i2), .val (.int i3), .val (.int i4), .val (.int (4 : Int32)), .val (.int pp), .val (.int z0), .val (.int z1), .val (.int z2), .val (.int z3), .val (.ref o122), .val (.int (0 : Int32)), .unset] [])) := by
              intro q0 q1 q2 q3
              have hli : own_li ([z0, z1, z2, z3] : List Int32) ([z0, z1, z2, z3] : List Int32).length = Int32.ofNat 0 := by
                show (if z3 = 58 then Int32.ofNat 3 else (if z2 = 58 then Int32.ofNat 2 else (if z1 = 58 then Int32.ofNat 1 else (if z0 = 58 then Int32.ofNat 0 else -1)))) = _
                rw [if_neg q3, if_neg q2, if_neg q1, if_pos q0]
              refine own_via (T144.setTop (mkF m 273 #[.val (.int i0), .val (.int i1), .val (.int i2), .val (.int i3), .val (.int i4), .val (.int (4 : Int32)), .val (.int pp), .val (.int z0), .val (.int z1), .val (.int z2), .val (.int z3), .val (.ref o122), .val (.int (0 : Int32)), .unset] [(.ref o122)])) (fun t k => XS.aload X144.here hx rfl (hb hby at_271) rfl rfl k) ?_
              have f145 : Old Z n0 h144 := (f143.keep Kq144 (allS (show @LE.le Nat _ _ _ by omega) all0))
              obtain ⟨v146, T146, h146, L146, X146, e146, q146, hS146, hZ146, hown146, C146, st146⟩ := own_cSH X144 hx hZ hown (hw _ (List.mem_of_getElem? (i := 34) rfl)) (hw _ (List.mem_of_getElem? (i := 35) rfl)) (hw _ (List.mem_of_getElem? (i := 36) rfl)) (hw _ (List.mem_of_getElem? (i := 37) rfl)) (by decide) (W := 0) (own_bkH (rm_coZ l Z a0 hw o122 t144 kb144 ([z0, z1, z2, z3] : List Int32) G1 fm h144 n0 (by omega) fE144 fV144 fC144 fA144 pf0 pf1 f145 (Nat.le_of_ble_eq_true rfl) hp hG1 rfm hli (Nat.le_of_ble_eq_true rfl)) hZ (hw _ (List.mem_of_getElem? (i := 37) rfl)) (hw _ (List.mem_of_getElem? (i := 36) rfl)) (by decide) (by decide) (own_EW hw) C_h144.1) e144 hS0 (by omega) (Ls := #[.val (.int i0), .val (.int i1), .val (.int i2), .val (.int i3), .val (.int i4), .val (.int (4 : Int32)), .val (.int pp), .val (.int z0), .val (.int z1), .val (.int z2), .val (.int z3), .val (.ref o122), .val (.int (0 : Int32)), .unset]) (by rw [hml]; rfl) (argsL := [(.ref o122)]) (rest := []) rfl (lenOf own_pd51720142 rfl) rfl (Nat.le_of_eq rfl) (hb hby at_273) (by decide) (by decide)
              have hZ146 : Z.Warmed39 (s.setVm T146.vm).vm := hZ146
              obtain ⟨b_146, tb_146, kc_146, rfl, Nq146, Kq146, f147, f148, f149, f150⟩ := q146
              have N146 := Fr.app N144 Nq146
              have sz_h146 : h144.size ≤ h146.size := Kq146.1
              have C_h146 : CHr Z own_EL s.vm h0 T146.vm h146 := C_h144.trans C146
              have sf_o122_h146 : Safe Z own_EL T146.vm h146 o122 := C146.safe (show @LT.lt Nat _ _ _ by omega) sf_o122_h144
              have sf_o123_h146 : Safe Z own_EL T146.vm h146 o123 := C146.safe (show @LT.lt Nat _ _ _ by omega) sf_o123_h144
              have lt_b_146 : @LT.lt Nat _ b_146 h146.size := f147.lt
              have lt_tb_146 : @LT.lt Nat _ tb_146 h146.size := f150.lt
              refine own_via (T146.setTop (mkF m 276 #[.val (.int i0), .val (.int i1), .val (.int i2), .val (.int i3), .val (.int i4), .val (.int (4 : Int32)), .val (.int pp), .val (.int z0), .val (.int z1), .val (.int z2), .val (.int z3), .val (.ref o122), .val (.int (0 : Int32)), .unset] [(.ref b_146)])) (st146) ?_
              refine own_via (T146.setTop (mkF m 278 #[.val (.int i0), .val (.int i1), .val (.int i2), .val (.int i3), .val (.int i4), .val (.int (4 : Int32)), .val (.int pp), .val (.int z0), .val (.int z1), .val (.int z2), .val (.int z3), .val (.ref o122), .val (.int (0 : Int32)), .val (.ref b_146)] [])) (fun t k => XS.astore X146.here hx rfl (hb hby at_276) rfl rfl (l' := #[.val (.int i0), .val (.int i1), .val (.int i2), .val (.int i3), .val (.int i4), .val (.int (4 : Int32)), .val (.int pp), .val (.int z0), .val (.int z1), .val (.int z2), .val (.int z3), .val (.ref o122), .val (.int (0 : Int32)), .val (.ref b_146)]) rfl k) ?_
              refine own_via (T146.setTop (mkF m 280 #[.val (.int i0), .val (.int i1), .val (.int i2), .val (.int i3), .val (.int i4), .val (.int (4 : Int32)), .val (.int pp), .val (.int z0), .val (.int z1), .val (.int z2), .val (.int z3), .val (.ref o122), .val (.int (0 : Int32)), .val (.ref b_146)] [(.ref b_146)])) (fun t k => XS.aload X146.here hx rfl (hb hby at_278) rfl rfl k) ?_
              refine own_via (T146.setTop (mkF m 283 #[.val (.int i0), .val (.int i1), .val (.int i2), .val (.int i3), .val (.int i4), .val (.int (4 : Int32)), .val (.int pp), .val (.int z0), .val (.int z1), .val (.int z2), .val (.int z3), .val (.ref o122), .val (.int (0 : Int32)), .val (.ref b_146)] [])) (fun t k => XS.ifnullNo X146.here hx rfl (hb hby at_280) rfl k) ?_
              refine own_via (T146.setTop (mkF m 285 #[.val (.int i0), .val (.int i1), .val (.int i2), .val (.int i3), .val (.int i4), .val (.int (4 : Int32)), .val (.int pp), .val (.int z0), .val (.int z1), .val (.int z2), .val (.int z3), .val (.ref o122), .val (.int (0 : Int32)), .val (.ref b_146)] [(.ref b_146)])) (fun t k => XS.aload X146.here hx rfl (hb hby at_283) rfl rfl k) ?_
              have hcd151 := StrChars.Road.codOf (cs := ([] : List Int32)) (n := (([] : List Int32) : List Int32).length) rfl (fun c hc => ((fun c (hc : c ∈ ([] : List Int32)) => (nomatch hc : ¬ c < 0 ∧ ¬ (255 : Int32) < c)) c hc).2)
              have hbd152 : ∀ c ∈ (([] : List Int32) : List Int32), ¬ c < 0 ∧ ¬ (65535 : Int32) < c := fun c hc => own_up ((fun c (hc : c ∈ ([] : List Int32)) => (nomatch hc : ¬ c < 0 ∧ ¬ (255 : Int32) < c)) c hc)
              have f153 : Old Z n0 h146 := (f145.keep Kq146 all0)
              obtain ⟨v154, T154, h154, L154, X154, e154, q154, st154⟩ := own_cV X146 hx hZ146 (y := (⟨"java/lang/String", "length", "()I"⟩ : MethodName)) (z := (⟨"java/lang/String", "length", "()I"⟩ : MethodName)) hown146 (hw _ (List.mem_of_getElem? (i := 93) rfl)) (hw _ (List.mem_of_getElem? (i := 44) rfl)) (notFace_of_selects (args := #[]) (mvT hZ146 (hw _ (List.mem_of_getElem? (i := 46) rfl)))) (hw _ (List.mem_of_getElem? (i := 46) rfl)) (hw _ (List.mem_of_getElem? (i := 45) rfl)) (by decide) (W := 0) (k := 0) (j := 0) (Q := fun v h' L => v = some (.int (Int32.ofNat (([] : List Int32) : List Int32).length)) ∧ L = [] ∧ h' = h146) (StrChars.Road.lenW (cs := ([] : List Int32)) hZ146 (own_hln hw) (kI := 4) (hw _ (List.mem_of_getElem? (i := 5) rfl)) f147 f148 f149 f150 hcd151 hbd152 (pf0.ext f153.2) hG1 (Nat.le_of_ble_eq_true rfl) (by decide) (by decide)) e146 f147 (Ls := #[.val (.int i0), .val (.int i1), .val (.int i2), .val (.int i3), .val (.int i4), .val (.int (4 : Int32)), .val (.int pp), .val (.int z0), .val (.int z1), .val (.int z2), .val (.int z3), .val (.ref o122), .val (.int (0 : Int32)), .val (.ref b_146)]) (by rw [hml]; rfl) (argsL := []) (rest := []) rfl (lenOf own_pd93735326 rfl) rfl (Nat.le_of_eq rfl) (hb hby at_285) (by decide) (by decide)
              obtain ⟨rfl, rfl, eq154⟩ := q154
              replace e154 := e154.trans eq154
              have N154 := Fr.app N146 (Fr.nil n0)
              refine own_via (T154.setTop (mkF m 288 #[.val (.int i0), .val (.int i1), .val (.int i2), .val (.int i3), .val (.int i4), .val (.int (4 : Int32)), .val (.int pp), .val (.int z0), .val (.int z1), .val (.int z2), .val (.int z3), .val (.ref o122), .val (.int (0 : Int32)), .val (.ref b_146)] [(.int (Int32.ofNat (([] : List Int32) : List Int32).length))])) (st154) ?_
              refine own_via (T154.setTop (mkF m 290 #[.val (.int i0), .val (.int i1), .val (.int i2), .val (.int i3), .val (.int i4), .val (.int (4 : Int32)), .val (.int pp), .val (.int z0), .val (.int z1), .val (.int z2), .val (.int z3), .val (.ref o122), .val (.int (0 : Int32)), .val (.ref b_146)] [(.int (0 : Int32)), (.int (Int32.ofNat (([] : List Int32) : List Int32).length))])) (fun t k => XS.iload X154.here hx rfl (hb hby at_288) rfl k) ?_
              refine own_via (T154.setTop (mkF m 295 #[.val (.int i0), .val (.int i1), .val (.int i2), .val (.int i3), .val (.int i4), .val (.int (4 : Int32)), .val (.int pp), .val (.int z0), .val (.int z1), .val (.int z2), .val (.int z3), .val (.ref o122), .val (.int (0 : Int32)), .val (.ref b_146)] [])) (fun t k => XS.icmpYes X154.here hx rfl (pc0 := 290) (pc' := 295) rfl (hb hby at_290) rfl (XT.ii_eq_t rfl) (by decide) (by decide) k) ?_
              refine own_via (T154.setTop (mkF m 297 #[.val (.int i0), .val (.int i1), .val (.int i2), .val (.int i3), .val (.int i4), .val (.int (4 : Int32)), .val (.int pp), .val (.int z0), .val (.int z1), .val (.int z2), .val (.int z3), .val (.ref o122), .val (.int (0 : Int32)), .val (.ref b_146)] [(.int (0 : Int32))])) (fun t k => XS.iload X154.here hx rfl (hb hby at_295) rfl k) ?_
              refine own_via (T154.setTop (mkF m 313 #[.val (.int i0), .val (.int i1), .val (.int i2), .val (.int i3), .val (.int i4), .val (.int (4 : Int32)), .val (.int pp), .val (.int z0), .val (.int z1), .val (.int z2), .val (.int z3), .val (.ref o122), .val (.int (0 : Int32)), .val (.ref b_146)] [])) (fun t k => XS.ifYes X154.here hx rfl (pc0 := 297) (pc' := 313) rfl (hb hby at_297) rfl (by decide) (by decide) (by decide) k) ?_
              refine own_via (T154.setTop (mkF m 315 #[.val (.int i0), .val (.int i1), .val (.int i2), .val (.int i3), .val (.int i4), .val (.int (4 : Int32)), .val (.int pp), .val (.int z0), .val (.int z1), .val (.int z2), .val (.int z3), .val (.ref o122), .val (.int (0 : Int32)), .val (.ref b_146)] [(.int (0 : Int32))])) (fun t k => XS.iload X154.here hx rfl (hb hby at_313) rfl k) ?_
              refine own_via (T154.setTop (mkF m 316 #[.val (.int i0), .val (.int i1), .val (.int i2), .val (.int i3), .val (.int i4), .val (.int (4 : Int32)), .val (.int pp), .val (.int z0), .val (.int z1), .val (.int z2), .val (.int z3), .val (.ref o122), .val (.int (0 : Int32)), .val (.ref b_146)] [(.int (1 : Int32)), (.int (0 : Int32))])) (fun t k => XS.iconst X154.here hx rfl (hb hby at_315) k) ?_
              refine own_via (T154.setTop (mkF m 332 #[.val (.int i0), .val (.int i1), .val (.int i2), .val (.int i3), .val (.int i4), .val (.int (4 : Int32)), .val (.int pp), .val (.int z0), .val (.int z1), .val (.int z2), .val (.int z3), .val (.ref o122), .val (.int (0 : Int32)), .val (.ref b_146)] [])) (fun t k => XS.icmpYes X154.here hx rfl (pc0 := 316) (pc' := 332) rfl (hb hby at_316) rfl (by decide) (by decide) (by decide) k) ?_
              refine own_via (T154.setTop (mkF m 334 #[.val (.int i0), .val (.int i1), .val (.int i2), .val (.int i3), .val (.int i4), .val (.int (4 : Int32)), .val (.int pp), .val (.int z0), .val (.int z1), .val (.int z2), .val (.int z3), .val (.ref o122), .val (.int (0 : Int32)), .val (.ref b_146)] [(.int (0 : Int32))])) (fun t k => XS.iload X154.here hx rfl (hb hby at_332) rfl k) ?_
              refine own_via (T154.setTop (mkF m 335 #[.val (.int i0), .val (.int i1), .val (.int i2), .val (.int i3), .val (.int i4), .val (.int (4 : Int32)), .val (.int pp), .val (.int z0), .val (.int z1), .val (.int z2), .val (.int z3), .val (.ref o122), .val (.int (0 : Int32)), .val (.ref b_146)] [(.int (2 : Int32)), (.int (0 : Int32))])) (fun t k => XS.iconst X154.here hx rfl (hb hby at_334) k) ?_
              refine own_via (T154.setTop (mkF m 351 #[.val (.int i0), .val (.int i1), .val (.int i2), .val (.int i3), .val (.int i4), .val (.int (4 : Int32)), .val (.int pp), .val (.int z0), .val (.int z1), .val (.int z2), .val (.int z3), .val (.ref o122), .val (.int (0 : Int32)), .val (.ref b_146)] [])) (fun t k => XS.icmpYes X154.here hx rfl (pc0 := 335) (pc' := 351) rfl (hb hby at_335) rfl (by decide) (by decide) (by decide) k) ?_
              refine own_via (T154.setTop (mkF m 352 #[.val (.int i0), .val (.int i1), .val (.int i2), .val (.int i3), .val (.int i4), .val (.int (4 : Int32)), .val (.int pp), .val (.int z0), .val (.int z1), .val (.int z2), .val (.int z3), .val (.ref o122), .val (.int (0 : Int32)), .val (.ref b_146)] [(.int (1 : Int32))])) (fun t k => XS.iconst X154.here hx rfl (hb hby at_351) k) ?_
              exact own_leaveH X154 hlk hZ146 (own_EW hw) hS146 (by omega) e154 C_h146 (v := some (.int (nar .boolean (1 : Int32)))) (fun h => by rw [hret] at h; cases h) (⟨rfl, N154⟩) (by decide) (by decide) (fun fs hr => retN X154 hx (t := .boolean) hret (by simp) (hb hby at_352) hr)
            have J1 :  (z1 = 58) → (¬ z2 = 58) → (¬ z3 = 58) → own_Ends p.tables e below (own_PostH Z own_EL s h0 (Q_rm_law Z i0 i1 i2 i3 i4 G1 fm h0 n0) room_1.cells room_1.slots) (T144.setTop (mkF m 271 #[.val (.int i0), .val (.int i1), .val (.int i2), .val (.int i3), .val (.int i4), .val (.int (4 : Int32)), .val (.int pp), .val (.int z0), .val (.int z1), .val (.int z2), .val (.int z3), .val (.ref o122), .val (.int (1 : Int32)), .unset] [])) := by
              intro q1 q2 q3
              have hli : own_li ([z0, z1, z2, z3] : List Int32) ([z0, z1, z2, z3] : List Int32).length = Int32.ofNat 1 := by
                show (if z3 = 58 then Int32.ofNat 3 else (if z2 = 58 then Int32.ofNat 2 else (if z1 = 58 then Int32.ofNat 1 else (if z0 = 58 then Int32.ofNat 0 else -1)))) = _
                rw [if_neg q3, if_neg q2, if_pos q1]
              refine own_via (T144.setTop (mkF m 273 #[.val (.int i0), .val (.int i1), .val (.int i2), .val (.int i3), .val (.int i4), .val (.int (4 : Int32)), .val (.int pp), .val (.int z0), .val (.int z1), .val (.int z2), .val (.int z3), .val (.ref o122), .val (.int (1 : Int32)), .unset] [(.ref o122)])) (fun t k => XS.aload X144.here hx rfl (hb hby at_271) rfl rfl k) ?_
              have f155 : Old Z n0 h144 := (f143.keep Kq144 (allS (show @LE.le Nat _ _ _ by omega) all0))
              obtain ⟨v156, T156, h156, L156, X156, e156, q156, st156⟩ := own_cS X144 hx hZ hown (hw _ (List.mem_of_getElem? (i := 34) rfl)) (hw _ (List.mem_of_getElem? (i := 35) rfl)) (hw _ (List.mem_of_getElem? (i := 36) rfl)) (hw _ (List.mem_of_getElem? (i := 37) rfl)) (by decide) (W := 0) (own_bk (rm_coN l Z a0 hw o122 t144 kb144 ([z0, z1, z2, z3] : List Int32) G1 fm 1 h144 n0 (by omega) fE144 fV144 fC144 fA144 pf0 pf1 f155 (Nat.le_of_ble_eq_true rfl) hp hG1 rfm hli (Nat.le_of_ble_eq_true rfl) (Nat.le_of_ble_eq_true rfl)) hZ (hw _ (List.mem_of_getElem? (i := 37) rfl)) (hw _ (List.mem_of_getElem? (i := 36) rfl)) (by decide) (by decide)) e144 (Ls := #[.val (.int i0), .val (.int i1), .val (.int i2), .val (.int i3), .val (.int i4), .val (.int (4 : Int32)), .val (.int pp), .val (.int z0), .val (.int z1), .val (.int z2), .val (.int z3), .val (.ref o122), .val (.int (1 : Int32)), .unset]) (by rw [hml]; rfl) (argsL := [(.ref o122)]) (rest := []) rfl (lenOf own_pd51720142 rfl) rfl (Nat.le_of_eq rfl) (hb hby at_273) (by decide) (by decide)
              obtain ⟨b_156, tb_156, kc_156, rfl, Nq156, Kq156, f157, f158, f159, f160⟩ := q156
              have N156 := Fr.app N144 Nq156
              have sz_h156 : h144.size ≤ h156.size := Kq156.1
              have B_h156 : CHr Z own_EL s.vm h144 s.vm h156 := CHr.keep Kq156 sf0 C_h144.1
              have C_h156 : CHr Z own_EL s.vm h0 s.vm h156 := C_h144.trans B_h156
              have sf_o122_h156 : Safe Z own_EL s.vm h156 o122 := B_h156.safe (show @LT.lt Nat _ _ _ by omega) sf_o122_h144
              have sf_o123_h156 : Safe Z own_EL s.vm h156 o123 := B_h156.safe (show @LT.lt Nat _ _ _ by omega) sf_o123_h144
              have lt_b_156 : @LT.lt Nat _ b_156 h156.size := f157.lt
              have lt_tb_156 : @LT.lt Nat _ tb_156 h156.size := f160.lt
              refine own_via (T156.setTop (mkF m 276 #[.val (.int i0), .val (.int i1), .val (.int i2), .val (.int i3), .val (.int i4), .val (.int (4 : Int32)), .val (.int pp), .val (.int z0), .val (.int z1), .val (.int z2), .val (.int z3), .val (.ref o122), .val (.int (1 : Int32)), .unset] [(.ref b_156)])) (st156) ?_
              refine own_via (T156.setTop (mkF m 278 #[.val (.int i0), .val (.int i1), .val (.int i2), .val (.int i3), .val (.int i4), .val (.int (4 : Int32)), .val (.int pp), .val (.int z0), .val (.int z1), .val (.int z2), .val (.int z3), .val (.ref o122), .val (.int (1 : Int32)), .val (.ref b_156)] [])) (fun t k => XS.astore X156.here hx rfl (hb hby at_276) rfl rfl (l' := #[.val (.int i0), .val (.int i1), .val (.int i2), .val (.int i3), .val (.int i4), .val (.int (4 : Int32)), .val (.int pp), .val (.int z0), .val (.int z1), .val (.int z2), .val (.int z3), .val (.ref o122), .val (.int (1 : Int32)), .val (.ref b_156)]) rfl k) ?_
              refine own_via (T156.setTop (mkF m 280 #[.val (.int i0), .val (.int i1), .val (.int i2), .val (.int i3), .val (.int i4), .val (.int (4 : Int32)), .val (.int pp), .val (.int z0), .val (.int z1), .val (.int z2), .val (.int z3), .val (.ref o122), .val (.int (1 : Int32)), .val (.ref b_156)] [(.ref b_156)])) (fun t k => XS.aload X156.here hx rfl (hb hby at_278) rfl rfl k) ?_
              refine own_via (T156.setTop (mkF m 283 #[.val (.int i0), .val (.int i1), .val (.int i2), .val (.int i3), .val (.int i4), .val (.int (4 : Int32)), .val (.int pp), .val (.int z0), .val (.int z1), .val (.int z2), .val (.int z3), .val (.ref o122), .val (.int (1 : Int32)), .val (.ref b_156)] [])) (fun t k => XS.ifnullNo X156.here hx rfl (hb hby at_280) rfl k) ?_
              refine own_via (T156.setTop (mkF m 285 #[.val (.int i0), .val (.int i1), .val (.int i2), .val (.int i3), .val (.int i4), .val (.int (4 : Int32)), .val (.int pp), .val (.int z0), .val (.int z1), .val (.int z2), .val (.int z3), .val (.ref o122), .val (.int (1 : Int32)), .val (.ref b_156)] [(.ref b_156)])) (fun t k => XS.aload X156.here hx rfl (hb hby at_283) rfl rfl k) ?_
              have hcd161 := StrChars.Road.codOf (cs := ((([z0, z1, z2, z3] : List Int32).drop 0).take 1)) (n := (((([z0, z1, z2, z3] : List Int32).drop 0).take 1) : List Int32).length) rfl (fun c hc => ((own_hpt hp 0 1) c hc).2)
              have hbd162 : ∀ c ∈ (((([z0, z1, z2, z3] : List Int32).drop 0).take 1) : List Int32), ¬ c < 0 ∧ ¬ (65535 : Int32) < c := fun c hc => own_up ((own_hpt hp 0 1) c hc)
              have f163 : Old Z n0 h156 := (f155.keep Kq156 all0)
              obtain ⟨v164, T164, h164, L164, X164, e164, q164, st164⟩ := own_cV X156 hx hZ (y := (⟨"java/lang/String", "length", "()I"⟩ : MethodName)) (z := (⟨"java/lang/String", "length", "()I"⟩ : MethodName)) hown (hw _ (List.mem_of_getElem? (i := 93) rfl)) (hw _ (List.mem_of_getElem? (i := 44) rfl)) (notFace_of_selects (args := #[]) (mvT hZ (hw _ (List.mem_of_getElem? (i := 46) rfl)))) (hw _ (List.mem_of_getElem? (i := 46) rfl)) (hw _ (List.mem_of_getElem? (i := 45) rfl)) (by decide) (W := 0) (k := 0) (j := 0) (Q := fun v h' L => v = some (.int (Int32.ofNat (((([z0, z1, z2, z3] : List Int32).drop 0).take 1) : List Int32).length)) ∧ L = [] ∧ h' = h156) (StrChars.Road.lenW (cs := ((([z0, z1, z2, z3] : List Int32).drop 0).take 1)) hZ (own_hln hw) (kI := 4) (hw _ (List.mem_of_getElem? (i := 5) rfl)) f157 f158 f159 f160 hcd161 hbd162 (pf0.ext f163.2) hG1 (Nat.le_of_ble_eq_true rfl) (by decide) (by decide)) e156 f157 (Ls := #[.val (.int i0), .val (.int i1), .val (.int i2), .val (.int i3), .val (.int i4), .val (.int (4 : Int32)), .val (.int pp), .val (.int z0), .val (.int z1), .val (.int z2), .val (.int z3), .val (.ref o122), .val (.int (1 : Int32)), .val (.ref b_156)]) (by rw [hml]; rfl) (argsL := []) (rest := []) rfl (lenOf own_pd93735326 rfl) rfl (Nat.le_of_eq rfl) (hb hby at_285) (by decide) (by decide)
              obtain ⟨rfl, rfl, eq164⟩ := q164
              replace e164 := e164.trans eq164
              have N164 := Fr.app N156 (Fr.nil n0)
              refine own_via (T164.setTop (mkF m 288 #[.val (.int i0), .val (.int i1), .val (.int i2), .val (.int i3), .val (.int i4), .val (.int (4 : Int32)), .val (.int pp), .val (.int z0), .val (.int z1), .val (.int z2), .val (.int z3), .val (.ref o122), .val (.int (1 : Int32)), .val (.ref b_156)] [(.int (Int32.ofNat (((([z0, z1, z2, z3] : List Int32).drop 0).take 1) : List Int32).length))])) (st164) ?_
              refine own_via (T164.setTop (mkF m 290 #[.val (.int i0), .val (.int i1), .val (.int i2), .val (.int i3), .val (.int i4), .val (.int (4 : Int32)), .val (.int pp), .val (.int z0), .val (.int z1), .val (.int z2), .val (.int z3), .val (.ref o122), .val (.int (1 : Int32)), .val (.ref b_156)] [(.int (1 : Int32)), (.int (Int32.ofNat (((([z0, z1, z2, z3] : List Int32).drop 0).take 1) : List Int32).length))])) (fun t k => XS.iload X164.here hx rfl (hb hby at_288) rfl k) ?_
              refine own_via (T164.setTop (mkF m 295 #[.val (.int i0), .val (.int i1), .val (.int i2), .val (.int i3), .val (.int i4), .val (.int (4 : Int32)), .val (.int pp), .val (.int z0), .val (.int z1), .val (.int z2), .val (.int z3), .val (.ref o122), .val (.int (1 : Int32)), .val (.ref b_156)] [])) (fun t k => XS.icmpYes X164.here hx rfl (pc0 := 290) (pc' := 295) rfl (hb hby at_290) rfl (XT.ii_eq_t rfl) (by decide) (by decide) k) ?_
              refine own_via (T164.setTop (mkF m 297 #[.val (.int i0), .val (.int i1), .val (.int i2), .val (.int i3), .val (.int i4), .val (.int (4 : Int32)), .val (.int pp), .val (.int z0), .val (.int z1), .val (.int z2), .val (.int z3), .val (.ref o122), .val (.int (1 : Int32)), .val (.ref b_156)] [(.int (1 : Int32))])) (fun t k => XS.iload X164.here hx rfl (hb hby at_295) rfl k) ?_
              refine own_via (T164.setTop (mkF m 300 #[.val (.int i0), .val (.int i1), .val (.int i2), .val (.int i3), .val (.int i4), .val (.int (4 : Int32)), .val (.int pp), .val (.int z0), .val (.int z1), .val (.int z2), .val (.int z3), .val (.ref o122), .val (.int (1 : Int32)), .val (.ref b_156)] [])) (fun t k => XS.ifNo X164.here hx rfl (hb hby at_297) rfl (by decide) k) ?_
              refine own_via (T164.setTop (mkF m 302 #[.val (.int i0), .val (.int i1), .val (.int i2), .val (.int i3), .val (.int i4), .val (.int (4 : Int32)), .val (.int pp), .val (.int z0), .val (.int z1), .val (.int z2), .val (.int z3), .val (.ref o122), .val (.int (1 : Int32)), .val (.ref b_156)] [(.ref b_156)])) (fun t k => XS.aload X164.here hx rfl (hb hby at_300) rfl rfl k) ?_
              refine own_via (T164.setTop (mkF m 303 #[.val (.int i0), .val (.int i1), .val (.int i2), .val (.int i3), .val (.int i4), .val (.int (4 : Int32)), .val (.int pp), .val (.int z0), .val (.int z1), .val (.int z2), .val (.int z3), .val (.ref o122), .val (.int (1 : Int32)), .val (.ref b_156)] [(.int (0 : Int32)), (.ref b_156)])) (fun t k => XS.iconst X164.here hx rfl (hb hby at_302) k) ?_
              have hcd165 := StrChars.Road.codOf (cs := ((([z0, z1, z2, z3] : List Int32).drop 0).take 1)) (n := (((([z0, z1, z2, z3] : List Int32).drop 0).take 1) : List Int32).length) rfl (fun c hc => ((own_hpt hp 0 1) c hc).2)
              have hbd166 : ∀ c ∈ (((([z0, z1, z2, z3] : List Int32).drop 0).take 1) : List Int32), ¬ c < 0 ∧ ¬ (65535 : Int32) < c := fun c hc => own_up ((own_hpt hp 0 1) c hc)
              obtain ⟨v167, T167, h167, L167, X167, e167, q167, st167⟩ := own_cV X164 hx hZ (y := (⟨"java/lang/String", "charAt", "(I)C"⟩ : MethodName)) (z := (⟨"java/lang/String", "charAt", "(I)C"⟩ : MethodName)) hown (hw _ (List.mem_of_getElem? (i := 113) rfl)) (hw _ (List.mem_of_getElem? (i := 114) rfl)) (notFace_of_selects (args := #[]) (mvT hZ (hw _ (List.mem_of_getElem? (i := 116) rfl)))) (hw _ (List.mem_of_getElem? (i := 116) rfl)) (hw _ (List.mem_of_getElem? (i := 115) rfl)) (by decide) (W := 0) (k := 0) (j := 0) (Q := fun v h' L => v = some (.int ((((([z0, z1, z2, z3] : List Int32).drop 0).take 1) : List Int32).getD 0 0)) ∧ L = [] ∧ h' = h156) (StrChars.Road.chN (cs := ((([z0, z1, z2, z3] : List Int32).drop 0).take 1)) hZ (own_hch hw) (kI := 4) (hw _ (List.mem_of_getElem? (i := 5) rfl)) f157 f158 f159 f160 hcd165 hbd166 (pf0.ext f163.2) hG1 (pf1.ext f163.2) rfm (Nat.le_of_ble_eq_true rfl) (i := 0) (Nat.le_of_ble_eq_true rfl) rfl (by decide) (by decide)) e164 f157 (Ls := #[.val (.int i0), .val (.int i1), .val (.int i2), .val (.int i3), .val (.int i4), .val (.int (4 : Int32)), .val (.int pp), .val (.int z0), .val (.int z1), .val (.int z2), .val (.int z3), .val (.ref o122), .val (.int (1 : Int32)), .val (.ref b_156)]) (by rw [hml]; rfl) (argsL := [(.int (0 : Int32))]) (rest := []) rfl (lenOf own_pd55318145 rfl) rfl (Nat.le_of_eq rfl) (hb hby at_303) (by decide) (by decide)
              obtain ⟨rfl, rfl, eq167⟩ := q167
              replace e167 := e167.trans eq167
              have N167 := Fr.app N164 (Fr.nil n0)
              refine own_via (T167.setTop (mkF m 306 #[.val (.int i0), .val (.int i1), .val (.int i2), .val (.int i3), .val (.int i4), .val (.int (4 : Int32)), .val (.int pp), .val (.int z0), .val (.int z1), .val (.int z2), .val (.int z3), .val (.ref o122), .val (.int (1 : Int32)), .val (.ref b_156)] [(.int ((((([z0, z1, z2, z3] : List Int32).drop 0).take 1) : List Int32).getD 0 0))])) (st167) ?_
              refine own_via (T167.setTop (mkF m 308 #[.val (.int i0), .val (.int i1), .val (.int i2), .val (.int i3), .val (.int i4), .val (.int (4 : Int32)), .val (.int pp), .val (.int z0), .val (.int z1), .val (.int z2), .val (.int z3), .val (.ref o122), .val (.int (1 : Int32)), .val (.ref b_156)] [(.int z0), (.int ((((([z0, z1, z2, z3] : List Int32).drop 0).take 1) : List Int32).getD 0 0))])) (fun t k => XS.iload X167.here hx rfl (hb hby at_306) rfl k) ?_
              refine own_via (T167.setTop (mkF m 313 #[.val (.int i0), .val (.int i1), .val (.int i2), .val (.int i3), .val (.int i4), .val (.int (4 : Int32)), .val (.int pp), .val (.int z0), .val (.int z1), .val (.int z2), .val (.int z3), .val (.ref o122), .val (.int (1 : Int32)), .val (.ref b_156)] [])) (fun t k => XS.icmpYes X167.here hx rfl (pc0 := 308) (pc' := 313) rfl (hb hby at_308) rfl (XT.ii_eq_t rfl) (by decide) (by decide) k) ?_
              refine own_via (T167.setTop (mkF m 315 #[.val (.int i0), .val (.int i1), .val (.int i2), .val (.int i3), .val (.int i4), .val (.int (4 : Int32)), .val (.int pp), .val (.int z0), .val (.int z1), .val (.int z2), .val (.int z3), .val (.ref o122), .val (.int (1 : Int32)), .val (.ref b_156)] [(.int (1 : Int32))])) (fun t k => XS.iload X167.here hx rfl (hb hby at_313) rfl k) ?_
              refine own_via (T167.setTop (mkF m 316 #[.val (.int i0), .val (.int i1), .val (.int i2), .val (.int i3), .val (.int i4), .val (.int (4 : Int32)), .val (.int pp), .val (.int z0), .val (.int z1), .val (.int z2), .val (.int z3), .val (.ref o122), .val (.int (1 : Int32)), .val (.ref b_156)] [(.int (1 : Int32)), (.int (1 : Int32))])) (fun t k => XS.iconst X167.here hx rfl (hb hby at_315) k) ?_
              refine own_via (T167.setTop (mkF m 332 #[.val (.int i0), .val (.int i1), .val (.int i2), .val (.int i3), .val (.int i4), .val (.int (4 : Int32)), .val (.int pp), .val (.int z0), .val (.int z1), .val (.int z2), .val (.int z3), .val (.ref o122), .val (.int (1 : Int32)), .val (.ref b_156)] [])) (fun t k => XS.icmpYes X167.here hx rfl (pc0 := 316) (pc' := 332) rfl (hb hby at_316) rfl (by decide) (by decide) (by decide) k) ?_
              refine own_via (T167.setTop (mkF m 334 #[.val (.int i0), .val (.int i1), .val (.int i2), .val (.int i3), .val (.int i4), .val (.int (4 : Int32)), .val (.int pp), .val (.int z0), .val (.int z1), .val (.int z2), .val (.int z3), .val (.ref o122), .val (.int (1 : Int32)), .val (.ref b_156)] [(.int (1 : Int32))])) (fun t k => XS.iload X167.here hx rfl (hb hby at_332) rfl k) ?_
              refine own_via (T167.setTop (mkF m 335 #[.val (.int i0), .val (.int i1), .val (.int i2), .val (.int i3), .val (.int i4), .val (.int (4 : Int32)), .val (.int pp), .val (.int z0), .val (.int z1), .val (.int z2), .val (.int z3), .val (.ref o122), .val (.int (1 : Int32)), .val (.ref b_156)] [(.int (2 : Int32)), (.int (1 : Int32))])) (fun t k => XS.iconst X167.here hx rfl (hb hby at_334) k) ?_
              refine own_via (T167.setTop (mkF m 351 #[.val (.int i0), .val (.int i1), .val (.int i2), .val (.int i3), .val (.int i4), .val (.int (4 : Int32)), .val (.int pp), .val (.int z0), .val (.int z1), .val (.int z2), .val (.int z3), .val (.ref o122), .val (.int (1 : Int32)), .val (.ref b_156)] [])) (fun t k => XS.icmpYes X167.here hx rfl (pc0 := 335) (pc' := 351) rfl (hb hby at_335) rfl (by decide) (by decide) (by decide) k) ?_
              refine own_via (T167.setTop (mkF m 352 #[.val (.int i0), .val (.int i1), .val (.int i2), .val (.int i3), .val (.int i4), .val (.int (4 : Int32)), .val (.int pp), .val (.int z0), .val (.int z1), .val (.int z2), .val (.int z3), .val (.ref o122), .val (.int (1 : Int32)), .val (.ref b_156)] [(.int (1 : Int32))])) (fun t k => XS.iconst X167.here hx rfl (hb hby at_351) k) ?_
              exact own_leaveH X167 hlk hZ (own_EW hw) hS0 (by omega) e167 C_h156 (v := some (.int (nar .boolean (1 : Int32)))) (fun h => by rw [hret] at h; cases h) (⟨rfl, N167⟩) (by decide) (by decide) (fun fs hr => retN X167 hx (t := .boolean) hret (by simp) (hb hby at_352) hr)
            have J2 :  (z2 = 58) → (¬ z3 = 58) → own_Ends p.tables e below (own_PostH Z own_EL s h0 (Q_rm_law Z i0 i1 i2 i3 i4 G1 fm h0 n0) room_1.cells room_1.slots) (T144.setTop (mkF m 271 #[.val (.int i0), .val (.int i1), .val (.int i2), .val (.int i3), .val (.int i4), .val (.int (4 : Int32)), .val (.int pp), .val (.int z0), .val (.int z1), .val (.int z2), .val (.int z3), .val (.ref o122), .val (.int (2 : Int32)), .unset] [])) := by
              intro q2 q3
              have hli : own_li ([z0, z1, z2, z3] : List Int32) ([z0, z1, z2, z3] : List Int32).length = Int32.ofNat 2 := by
                show (if z3 = 58 then Int32.ofNat 3 else (if z2 = 58 then Int32.ofNat 2 else (if z1 = 58 then Int32.ofNat 1 else (if z0 = 58 then Int32.ofNat 0 else -1)))) = _
                rw [if_neg q3, if_pos q2]
              refine own_via (T144.setTop (mkF m 273 #[.val (.int i0), .val (.int i1), .val (.int i2), .val (.int i3), .val (.int i4), .val (.int (4 : Int32)), .val (.int pp), .val (.int z0), .val (.int z1), .val (.int z2), .val (.int z3), .val (.ref o122), .val (.int (2 : Int32)), .unset] [(.ref o122)])) (fun t k => XS.aload X144.here hx rfl (hb hby at_271) rfl rfl k) ?_
              have f168 : Old Z n0 h144 := (f143.keep Kq144 (allS (show @LE.le Nat _ _ _ by omega) all0))
              obtain ⟨v169, T169, h169, L169, X169, e169, q169, st169⟩ := own_cS X144 hx hZ hown (hw _ (List.mem_of_getElem? (i := 34) rfl)) (hw _ (List.mem_of_getElem? (i := 35) rfl)) (hw _ (List.mem_of_getElem? (i := 36) rfl)) (hw _ (List.mem_of_getElem? (i := 37) rfl)) (by decide) (W := 0) (own_bk (rm_coN l Z a0 hw o122 t144 kb144 ([z0, z1, z2, z3] : List Int32) G1 fm 2 h144 n0 (by omega) fE144 fV144 fC144 fA144 pf0 pf1 f168 (Nat.le_of_ble_eq_true rfl) hp hG1 rfm hli (Nat.le_of_ble_eq_true rfl) (Nat.le_of_ble_eq_true rfl)) hZ (hw _ (List.mem_of_getElem? (i := 37) rfl)) (hw _ (List.mem_of_getElem? (i := 36) rfl)) (by decide) (by decide)) e144 (Ls := #[.val (.int i0), .val (.int i1), .val (.int i2), .val (.int i3), .val (.int i4), .val (.int (4 : Int32)), .val (.int pp), .val (.int z0), .val (.int z1), .val (.int z2), .val (.int z3), .val (.ref o122), .val (.int (2 : Int32)), .unset]) (by rw [hml]; rfl) (argsL := [(.ref o122)]) (rest := []) rfl (lenOf own_pd51720142 rfl) rfl (Nat.le_of_eq rfl) (hb hby at_273) (by decide) (by decide)
              obtain ⟨b_169, tb_169, kc_169, rfl, Nq169, Kq169, f170, f171, f172, f173⟩ := q169
              have N169 := Fr.app N144 Nq169
              have sz_h169 : h144.size ≤ h169.size := Kq169.1
              have B_h169 : CHr Z own_EL s.vm h144 s.vm h169 := CHr.keep Kq169 sf0 C_h144.1
              have C_h169 : CHr Z own_EL s.vm h0 s.vm h169 := C_h144.trans B_h169
              have sf_o122_h169 : Safe Z own_EL s.vm h169 o122 := B_h169.safe (show @LT.lt Nat _ _ _ by omega) sf_o122_h144
              have sf_o123_h169 : Safe Z own_EL s.vm h169 o123 := B_h169.safe (show @LT.lt Nat _ _ _ by omega) sf_o123_h144
              have lt_b_169 : @LT.lt Nat _ b_169 h169.size := f170.lt
              have lt_tb_169 : @LT.lt Nat _ tb_169 h169.size := f173.lt
              refine own_via (T169.setTop (mkF m 276 #[.val (.int i0), .val (.int i1), .val (.int i2), .val (.int i3), .val (.int i4), .val (.int (4 : Int32)), .val (.int pp), .val (.int z0), .val (.int z1), .val (.int z2), .val (.int z3), .val (.ref o122), .val (.int (2 : Int32)), .unset] [(.ref b_169)])) (st169) ?_
              refine own_via (T169.setTop (mkF m 278 #[.val (.int i0), .val (.int i1), .val (.int i2), .val (.int i3), .val (.int i4), .val (.int (4 : Int32)), .val (.int pp), .val (.int z0), .val (.int z1), .val (.int z2), .val (.int z3), .val (.ref o122), .val (.int (2 : Int32)), .val (.ref b_169)] [])) (fun t k => XS.astore X169.here hx rfl (hb hby at_276) rfl rfl (l' := #[.val (.int i0), .val (.int i1), .val (.int i2), .val (.int i3), .val (.int i4), .val (.int (4 : Int32)), .val (.int pp), .val (.int z0), .val (.int z1), .val (.int z2), .val (.int z3), .val (.ref o122), .val (.int (2 : Int32)), .val (.ref b_169)]) rfl k) ?_
              refine own_via (T169.setTop (mkF m 280 #[.val (.int i0), .val (.int i1), .val (.int i2), .val (.int i3), .val (.int i4), .val (.int (4 : Int32)), .val (.int pp), .val (.int z0), .val (.int z1), .val (.int z2), .val (.int z3), .val (.ref o122), .val (.int (2 : Int32)), .val (.ref b_169)] [(.ref b_169)])) (fun t k => XS.aload X169.here hx rfl (hb hby at_278) rfl rfl k) ?_
              refine own_via (T169.setTop (mkF m 283 #[.val (.int i0), .val (.int i1), .val (.int i2), .val (.int i3), .val (.int i4), .val (.int (4 : Int32)), .val (.int pp), .val (.int z0), .val (.int z1), .val (.int z2), .val (.int z3), .val (.ref o122), .val (.int (2 : Int32)), .val (.ref b_169)] [])) (fun t k => XS.ifnullNo X169.here hx rfl (hb hby at_280) rfl k) ?_
              refine own_via (T169.setTop (mkF m 285 #[.val (.int i0), .val (.int i1), .val (.int i2), .val (.int i3), .val (.int i4), .val (.int (4 : Int32)), .val (.int pp), .val (.int z0), .val (.int z1), .val (.int z2), .val (.int z3), .val (.ref o122), .val (.int (2 : Int32)), .val (.ref b_169)] [(.ref b_169)])) (fun t k => XS.aload X169.here hx rfl (hb hby at_283) rfl rfl k) ?_
              have hcd174 := StrChars.Road.codOf (cs := ((([z0, z1, z2, z3] : List Int32).drop 0).take 2)) (n := (((([z0, z1, z2, z3] : List Int32).drop 0).take 2) : List Int32).length) rfl (fun c hc => ((own_hpt hp 0 2) c hc).2)
              have hbd175 : ∀ c ∈ (((([z0, z1, z2, z3] : List Int32).drop 0).take 2) : List Int32), ¬ c < 0 ∧ ¬ (65535 : Int32) < c := fun c hc => own_up ((own_hpt hp 0 2) c hc)
              have f176 : Old Z n0 h169 := (f168.keep Kq169 all0)
              obtain ⟨v177, T177, h177, L177, X177, e177, q177, st177⟩ := own_cV X169 hx hZ (y := (⟨"java/lang/String", "length", "()I"⟩ : MethodName)) (z := (⟨"java/lang/String", "length", "()I"⟩ : MethodName)) hown (hw _ (List.mem_of_getElem? (i := 93) rfl)) (hw _ (List.mem_of_getElem? (i := 44) rfl)) (notFace_of_selects (args := #[]) (mvT hZ (hw _ (List.mem_of_getElem? (i := 46) rfl)))) (hw _ (List.mem_of_getElem? (i := 46) rfl)) (hw _ (List.mem_of_getElem? (i := 45) rfl)) (by decide) (W := 0) (k := 0) (j := 0) (Q := fun v h' L => v = some (.int (Int32.ofNat (((([z0, z1, z2, z3] : List Int32).drop 0).take 2) : List Int32).length)) ∧ L = [] ∧ h' = h169) (StrChars.Road.lenW (cs := ((([z0, z1, z2, z3] : List Int32).drop 0).take 2)) hZ (own_hln hw) (kI := 4) (hw _ (List.mem_of_getElem? (i := 5) rfl)) f170 f171 f172 f173 hcd174 hbd175 (pf0.ext f176.2) hG1 (Nat.le_of_ble_eq_true rfl) (by decide) (by decide)) e169 f170 (Ls := #[.val (.int i0), .val (.int i1), .val (.int i2), .val (.int i3), .val (.int i4), .val (.int (4 : Int32)), .val (.int pp), .val (.int z0), .val (.int z1), .val (.int z2), .val (.int z3), .val (.ref o122), .val (.int (2 : Int32)), .val (.ref b_169)]) (by rw [hml]; rfl) (argsL := []) (rest := []) rfl (lenOf own_pd93735326 rfl) rfl (Nat.le_of_eq rfl) (hb hby at_285) (by decide) (by decide)
              obtain ⟨rfl, rfl, eq177⟩ := q177
              replace e177 := e177.trans eq177
              have N177 := Fr.app N169 (Fr.nil n0)
              refine own_via (T177.setTop (mkF m 288 #[.val (.int i0), .val (.int i1), .val (.int i2), .val (.int i3), .val (.int i4), .val (.int (4 : Int32)), .val (.int pp), .val (.int z0), .val (.int z1), .val (.int z2), .val (.int z3), .val (.ref o122), .val (.int (2 : Int32)), .val (.ref b_169)] [(.int (Int32.ofNat (((([z0, z1, z2, z3] : List Int32).drop 0).take 2) : List Int32).length))])) (st177) ?_
              refine own_via (T177.setTop (mkF m 290 #[.val (.int i0), .val (.int i1), .val (.int i2), .val (.int i3), .val (.int i4), .val (.int (4 : Int32)), .val (.int pp), .val (.int z0), .val (.int z1), .val (.int z2), .val (.int z3), .val (.ref o122), .val (.int (2 : Int32)), .val (.ref b_169)] [(.int (2 : Int32)), (.int (Int32.ofNat (((([z0, z1, z2, z3] : List Int32).drop 0).take 2) : List Int32).length))])) (fun t k => XS.iload X177.here hx rfl (hb hby at_288) rfl k) ?_
              refine own_via (T177.setTop (mkF m 295 #[.val (.int i0), .val (.int i1), .val (.int i2), .val (.int i3), .val (.int i4), .val (.int (4 : Int32)), .val (.int pp), .val (.int z0), .val (.int z1), .val (.int z2), .val (.int z3), .val (.ref o122), .val (.int (2 : Int32)), .val (.ref b_169)] [])) (fun t k => XS.icmpYes X177.here hx rfl (pc0 := 290) (pc' := 295) rfl (hb hby at_290) rfl (XT.ii_eq_t rfl) (by decide) (by decide) k) ?_
              refine own_via (T177.setTop (mkF m 297 #[.val (.int i0), .val (.int i1), .val (.int i2), .val (.int i3), .val (.int i4), .val (.int (4 : Int32)), .val (.int pp), .val (.int z0), .val (.int z1), .val (.int z2), .val (.int z3), .val (.ref o122), .val (.int (2 : Int32)), .val (.ref b_169)] [(.int (2 : Int32))])) (fun t k => XS.iload X177.here hx rfl (hb hby at_295) rfl k) ?_
              refine own_via (T177.setTop (mkF m 300 #[.val (.int i0), .val (.int i1), .val (.int i2), .val (.int i3), .val (.int i4), .val (.int (4 : Int32)), .val (.int pp), .val (.int z0), .val (.int z1), .val (.int z2), .val (.int z3), .val (.ref o122), .val (.int (2 : Int32)), .val (.ref b_169)] [])) (fun t k => XS.ifNo X177.here hx rfl (hb hby at_297) rfl (by decide) k) ?_
              refine own_via (T177.setTop (mkF m 302 #[.val (.int i0), .val (.int i1), .val (.int i2), .val (.int i3), .val (.int i4), .val (.int (4 : Int32)), .val (.int pp), .val (.int z0), .val (.int z1), .val (.int z2), .val (.int z3), .val (.ref o122), .val (.int (2 : Int32)), .val (.ref b_169)] [(.ref b_169)])) (fun t k => XS.aload X177.here hx rfl (hb hby at_300) rfl rfl k) ?_
              refine own_via (T177.setTop (mkF m 303 #[.val (.int i0), .val (.int i1), .val (.int i2), .val (.int i3), .val (.int i4), .val (.int (4 : Int32)), .val (.int pp), .val (.int z0), .val (.int z1), .val (.int z2), .val (.int z3), .val (.ref o122), .val (.int (2 : Int32)), .val (.ref b_169)] [(.int (0 : Int32)), (.ref b_169)])) (fun t k => XS.iconst X177.here hx rfl (hb hby at_302) k) ?_
              have hcd178 := StrChars.Road.codOf (cs := ((([z0, z1, z2, z3] : List Int32).drop 0).take 2)) (n := (((([z0, z1, z2, z3] : List Int32).drop 0).take 2) : List Int32).length) rfl (fun c hc => ((own_hpt hp 0 2) c hc).2)
              have hbd179 : ∀ c ∈ (((([z0, z1, z2, z3] : List Int32).drop 0).take 2) : List Int32), ¬ c < 0 ∧ ¬ (65535 : Int32) < c := fun c hc => own_up ((own_hpt hp 0 2) c hc)
              obtain ⟨v180, T180, h180, L180, X180, e180, q180, st180⟩ := own_cV X177 hx hZ (y := (⟨"java/lang/String", "charAt", "(I)C"⟩ : MethodName)) (z := (⟨"java/lang/String", "charAt", "(I)C"⟩ : MethodName)) hown (hw _ (List.mem_of_getElem? (i := 113) rfl)) (hw _ (List.mem_of_getElem? (i := 114) rfl)) (notFace_of_selects (args := #[]) (mvT hZ (hw _ (List.mem_of_getElem? (i := 116) rfl)))) (hw _ (List.mem_of_getElem? (i := 116) rfl)) (hw _ (List.mem_of_getElem? (i := 115) rfl)) (by decide) (W := 0) (k := 0) (j := 0) (Q := fun v h' L => v = some (.int ((((([z0, z1, z2, z3] : List Int32).drop 0).take 2) : List Int32).getD 0 0)) ∧ L = [] ∧ h' = h169) (StrChars.Road.chN (cs := ((([z0, z1, z2, z3] : List Int32).drop 0).take 2)) hZ (own_hch hw) (kI := 4) (hw _ (List.mem_of_getElem? (i := 5) rfl)) f170 f171 f172 f173 hcd178 hbd179 (pf0.ext f176.2) hG1 (pf1.ext f176.2) rfm (Nat.le_of_ble_eq_true rfl) (i := 0) (Nat.le_of_ble_eq_true rfl) rfl (by decide) (by decide)) e177 f170 (Ls := #[.val (.int i0), .val (.int i1), .val (.int i2), .val (.int i3), .val (.int i4), .val (.int (4 : Int32)), .val (.int pp), .val (.int z0), .val (.int z1), .val (.int z2), .val (.int z3), .val (.ref o122), .val (.int (2 : Int32)), .val (.ref b_169)]) (by rw [hml]; rfl) (argsL := [(.int (0 : Int32))]) (rest := []) rfl (lenOf own_pd55318145 rfl) rfl (Nat.le_of_eq rfl) (hb hby at_303) (by decide) (by decide)
              obtain ⟨rfl, rfl, eq180⟩ := q180
              replace e180 := e180.trans eq180
              have N180 := Fr.app N177 (Fr.nil n0)
              refine own_via (T180.setTop (mkF m 306 #[.val (.int i0), .val (.int i1), .val (.int i2), .val (.int i3), .val (.int i4), .val (.int (4 : Int32)), .val (.int pp), .val (.int z0), .val (.int z1), .val (.int z2), .val (.int z3), .val (.ref o122), .val (.int (2 : Int32)), .val (.ref b_169)] [(.int ((((([z0, z1, z2, z3] : List Int32).drop 0).take 2) : List Int32).getD 0 0))])) (st180) ?_
              refine own_via (T180.setTop (mkF m 308 #[.val (.int i0), .val (.int i1), .val (.int i2), .val (.int i3), .val (.int i4), .val (.int (4 : Int32)), .val (.int pp), .val (.int z0), .val (.int z1), .val (.int z2), .val (.int z3), .val (.ref o122), .val (.int (2 : Int32)), .val (.ref b_169)] [(.int z0), (.int ((((([z0, z1, z2, z3] : List Int32).drop 0).take 2) : List Int32).getD 0 0))])) (fun t k => XS.iload X180.here hx rfl (hb hby at_306) rfl k) ?_
              refine own_via (T180.setTop (mkF m 313 #[.val (.int i0), .val (.int i1), .val (.int i2), .val (.int i3), .val (.int i4), .val (.int (4 : Int32)), .val (.int pp), .val (.int z0), .val (.int z1), .val (.int z2), .val (.int z3), .val (.ref o122), .val (.int (2 : Int32)), .val (.ref b_169)] [])) (fun t k => XS.icmpYes X180.here hx rfl (pc0 := 308) (pc' := 313) rfl (hb hby at_308) rfl (XT.ii_eq_t rfl) (by decide) (by decide) k) ?_
              refine own_via (T180.setTop (mkF m 315 #[.val (.int i0), .val (.int i1), .val (.int i2), .val (.int i3), .val (.int i4), .val (.int (4 : Int32)), .val (.int pp), .val (.int z0), .val (.int z1), .val (.int z2), .val (.int z3), .val (.ref o122), .val (.int (2 : Int32)), .val (.ref b_169)] [(.int (2 : Int32))])) (fun t k => XS.iload X180.here hx rfl (hb hby at_313) rfl k) ?_
              refine own_via (T180.setTop (mkF m 316 #[.val (.int i0), .val (.int i1), .val (.int i2), .val (.int i3), .val (.int i4), .val (.int (4 : Int32)), .val (.int pp), .val (.int z0), .val (.int z1), .val (.int z2), .val (.int z3), .val (.ref o122), .val (.int (2 : Int32)), .val (.ref b_169)] [(.int (1 : Int32)), (.int (2 : Int32))])) (fun t k => XS.iconst X180.here hx rfl (hb hby at_315) k) ?_
              refine own_via (T180.setTop (mkF m 319 #[.val (.int i0), .val (.int i1), .val (.int i2), .val (.int i3), .val (.int i4), .val (.int (4 : Int32)), .val (.int pp), .val (.int z0), .val (.int z1), .val (.int z2), .val (.int z3), .val (.ref o122), .val (.int (2 : Int32)), .val (.ref b_169)] [])) (fun t k => XS.icmpNo X180.here hx rfl (hb hby at_316) rfl (by decide) k) ?_
              refine own_via (T180.setTop (mkF m 321 #[.val (.int i0), .val (.int i1), .val (.int i2), .val (.int i3), .val (.int i4), .val (.int (4 : Int32)), .val (.int pp), .val (.int z0), .val (.int z1), .val (.int z2), .val (.int z3), .val (.ref o122), .val (.int (2 : Int32)), .val (.ref b_169)] [(.ref b_169)])) (fun t k => XS.aload X180.here hx rfl (hb hby at_319) rfl rfl k) ?_
              refine own_via (T180.setTop (mkF m 322 #[.val (.int i0), .val (.int i1), .val (.int i2), .val (.int i3), .val (.int i4), .val (.int (4 : Int32)), .val (.int pp), .val (.int z0), .val (.int z1), .val (.int z2), .val (.int z3), .val (.ref o122), .val (.int (2 : Int32)), .val (.ref b_169)] [(.int (1 : Int32)), (.ref b_169)])) (fun t k => XS.iconst X180.here hx rfl (hb hby at_321) k) ?_
              have hcd181 := StrChars.Road.codOf (cs := ((([z0, z1, z2, z3] : List Int32).drop 0).take 2)) (n := (((([z0, z1, z2, z3] : List Int32).drop 0).take 2) : List Int32).length) rfl (fun c hc => ((own_hpt hp 0 2) c hc).2)
              have hbd182 : ∀ c ∈ (((([z0, z1, z2, z3] : List Int32).drop 0).take 2) : List Int32), ¬ c < 0 ∧ ¬ (65535 : Int32) < c := fun c hc => own_up ((own_hpt hp 0 2) c hc)
              obtain ⟨v183, T183, h183, L183, X183, e183, q183, st183⟩ := own_cV X180 hx hZ (y := (⟨"java/lang/String", "charAt", "(I)C"⟩ : MethodName)) (z := (⟨"java/lang/String", "charAt", "(I)C"⟩ : MethodName)) hown (hw _ (List.mem_of_getElem? (i := 113) rfl)) (hw _ (List.mem_of_getElem? (i := 114) rfl)) (notFace_of_selects (args := #[]) (mvT hZ (hw _ (List.mem_of_getElem? (i := 116) rfl)))) (hw _ (List.mem_of_getElem? (i := 116) rfl)) (hw _ (List.mem_of_getElem? (i := 115) rfl)) (by decide) (W := 0) (k := 0) (j := 0) (Q := fun v h' L => v = some (.int ((((([z0, z1, z2, z3] : List Int32).drop 0).take 2) : List Int32).getD 1 0)) ∧ L = [] ∧ h' = h169) (StrChars.Road.chN (cs := ((([z0, z1, z2, z3] : List Int32).drop 0).take 2)) hZ (own_hch hw) (kI := 4) (hw _ (List.mem_of_getElem? (i := 5) rfl)) f170 f171 f172 f173 hcd181 hbd182 (pf0.ext f176.2) hG1 (pf1.ext f176.2) rfm (Nat.le_of_ble_eq_true rfl) (i := 1) (Nat.le_of_ble_eq_true rfl) rfl (by decide) (by decide)) e180 f170 (Ls := #[.val (.int i0), .val (.int i1), .val (.int i2), .val (.int i3), .val (.int i4), .val (.int (4 : Int32)), .val (.int pp), .val (.int z0), .val (.int z1), .val (.int z2), .val (.int z3), .val (.ref o122), .val (.int (2 : Int32)), .val (.ref b_169)]) (by rw [hml]; rfl) (argsL := [(.int (1 : Int32))]) (rest := []) rfl (lenOf own_pd55318145 rfl) rfl (Nat.le_of_eq rfl) (hb hby at_322) (by decide) (by decide)
              obtain ⟨rfl, rfl, eq183⟩ := q183
              replace e183 := e183.trans eq183
              have N183 := Fr.app N180 (Fr.nil n0)
              refine own_via (T183.setTop (mkF m 325 #[.val (.int i0), .val (.int i1), .val (.int i2), .val (.int i3), .val (.int i4), .val (.int (4 : Int32)), .val (.int pp), .val (.int z0), .val (.int z1), .val (.int z2), .val (.int z3), .val (.ref o122), .val (.int (2 : Int32)), .val (.ref b_169)] [(.int ((((([z0, z1, z2, z3] : List Int32).drop 0).take 2) : List Int32).getD 1 0))])) (st183) ?_
              refine own_via (T183.setTop (mkF m 327 #[.val (.int i0), .val (.int i1), .val (.int i2), .val (.int i3), .val (.int i4), .val (.int (4 : Int32)), .val (.int pp), .val (.int z0), .val (.int z1), .val (.int z2), .val (.int z3), .val (.ref o122), .val (.int (2 : Int32)), .val (.ref b_169)] [(.int z1), (.int ((((([z0, z1, z2, z3] : List Int32).drop 0).take 2) : List Int32).getD 1 0))])) (fun t k => XS.iload X183.here hx rfl (hb hby at_325) rfl k) ?_
              refine own_via (T183.setTop (mkF m 332 #[.val (.int i0), .val (.int i1), .val (.int i2), .val (.int i3), .val (.int i4), .val (.int (4 : Int32)), .val (.int pp), .val (.int z0), .val (.int z1), .val (.int z2), .val (.int z3), .val (.ref o122), .val (.int (2 : Int32)), .val (.ref b_169)] [])) (fun t k => XS.icmpYes X183.here hx rfl (pc0 := 327) (pc' := 332) rfl (hb hby at_327) rfl (XT.ii_eq_t rfl) (by decide) (by decide) k) ?_
              refine own_via (T183.setTop (mkF m 334 #[.val (.int i0), .val (.int i1), .val (.int i2), .val (.int i3), .val (.int i4), .val (.int (4 : Int32)), .val (.int pp), .val (.int z0), .val (.int z1), .val (.int z2), .val (.int z3), .val (.ref o122), .val (.int (2 : Int32)), .val (.ref b_169)] [(.int (2 : Int32))])) (fun t k => XS.iload X183.here hx rfl (hb hby at_332) rfl k) ?_
              refine own_via (T183.setTop (mkF m 335 #[.val (.int i0), .val (.int i1), .val (.int i2), .val (.int i3), .val (.int i4), .val (.int (4 : Int32)), .val (.int pp), .val (.int z0), .val (.int z1), .val (.int z2), .val (.int z3), .val (.ref o122), .val (.int (2 : Int32)), .val (.ref b_169)] [(.int (2 : Int32)), (.int (2 : Int32))])) (fun t k => XS.iconst X183.here hx rfl (hb hby at_334) k) ?_
              refine own_via (T183.setTop (mkF m 351 #[.val (.int i0), .val (.int i1), .val (.int i2), .val (.int i3), .val (.int i4), .val (.int (4 : Int32)), .val (.int pp), .val (.int z0), .val (.int z1), .val (.int z2), .val (.int z3), .val (.ref o122), .val (.int (2 : Int32)), .val (.ref b_169)] [])) (fun t k => XS.icmpYes X183.here hx rfl (pc0 := 335) (pc' := 351) rfl (hb hby at_335) rfl (by decide) (by decide) (by decide) k) ?_
              refine own_via (T183.setTop (mkF m 352 #[.val (.int i0), .val (.int i1), .val (.int i2), .val (.int i3), .val (.int i4), .val (.int (4 : Int32)), .val (.int pp), .val (.int z0), .val (.int z1), .val (.int z2), .val (.int z3), .val (.ref o122), .val (.int (2 : Int32)), .val (.ref b_169)] [(.int (1 : Int32))])) (fun t k => XS.iconst X183.here hx rfl (hb hby at_351) k) ?_
              exact own_leaveH X183 hlk hZ (own_EW hw) hS0 (by omega) e183 C_h169 (v := some (.int (nar .boolean (1 : Int32)))) (fun h => by rw [hret] at h; cases h) (⟨rfl, N183⟩) (by decide) (by decide) (fun fs hr => retN X183 hx (t := .boolean) hret (by simp) (hb hby at_352) hr)
            have J3 :  (z3 = 58) → own_Ends p.tables e below (own_PostH Z own_EL s h0 (Q_rm_law Z i0 i1 i2 i3 i4 G1 fm h0 n0) room_1.cells room_1.slots) (T144.setTop (mkF m 271 #[.val (.int i0), .val (.int i1), .val (.int i2), .val (.int i3), .val (.int i4), .val (.int (4 : Int32)), .val (.int pp), .val (.int z0), .val (.int z1), .val (.int z2), .val (.int z3), .val (.ref o122), .val (.int (3 : Int32)), .unset] [])) := by
              intro q3
              have hli : own_li ([z0, z1, z2, z3] : List Int32) ([z0, z1, z2, z3] : List Int32).length = Int32.ofNat 3 := by
                show (if z3 = 58 then Int32.ofNat 3 else (if z2 = 58 then Int32.ofNat 2 else (if z1 = 58 then Int32.ofNat 1 else (if z0 = 58 then Int32.ofNat 0 else -1)))) = _
                rw [if_pos q3]
              refine own_via (T144.setTop (mkF m 273 #[.val (.int i0), .val (.int i1), .val (.int i2), .val (.int i3), .val (.int i4), .val (.int (4 : Int32)), .val (.int pp), .val (.int z0), .val (.int z1), .val (.int z2), .val (.int z3), .val (.ref o122), .val (.int (3 : Int32)), .unset] [(.ref o122)])) (fun t k => XS.aload X144.here hx rfl (hb hby at_271) rfl rfl k) ?_
              have f184 : Old Z n0 h144 := (f143.keep Kq144 (allS (show @LE.le Nat _ _ _ by omega) all0))
              obtain ⟨v185, T185, h185, L185, X185, e185, q185, st185⟩ := own_cS X144 hx hZ hown (hw _ (List.mem_of_getElem? (i := 34) rfl)) (hw _ (List.mem_of_getElem? (i := 35) rfl)) (hw _ (List.mem_of_getElem? (i := 36) rfl)) (hw _ (List.mem_of_getElem? (i := 37) rfl)) (by decide) (W := 0) (own_bk (rm_coN l Z a0 hw o122 t144 kb144 ([z0, z1, z2, z3] : List Int32) G1 fm 3 h144 n0 (by omega) fE144 fV144 fC144 fA144 pf0 pf1 f184 (Nat.le_of_ble_eq_true rfl) hp hG1 rfm hli (Nat.le_of_ble_eq_true rfl) (Nat.le_of_ble_eq_true rfl)) hZ (hw _ (List.mem_of_getElem? (i := 37) rfl)) (hw _ (List.mem_of_getElem? (i := 36) rfl)) (by decide) (by decide)) e144 (Ls := #[.val (.int i0), .val (.int i1), .val (.int i2), .val (.int i3), .val (.int i4), .val (.int (4 : Int32)), .val (.int pp), .val (.int z0), .val (.int z1), .val (.int z2), .val (.int z3), .val (.ref o122), .val (.int (3 : Int32)), .unset]) (by rw [hml]; rfl) (argsL := [(.ref o122)]) (rest := []) rfl (lenOf own_pd51720142 rfl) rfl (Nat.le_of_eq rfl) (hb hby at_273) (by decide) (by decide)
              obtain ⟨b_185, tb_185, kc_185, rfl, Nq185, Kq185, f186, f187, f188, f189⟩ := q185
              have N185 := Fr.app N144 Nq185
              have sz_h185 : h144.size ≤ h185.size := Kq185.1
              have B_h185 : CHr Z own_EL s.vm h144 s.vm h185 := CHr.keep Kq185 sf0 C_h144.1
              have C_h185 : CHr Z own_EL s.vm h0 s.vm h185 := C_h144.trans B_h185
              have sf_o122_h185 : Safe Z own_EL s.vm h185 o122 := B_h185.safe (show @LT.lt Nat _ _ _ by omega) sf_o122_h144
              have sf_o123_h185 : Safe Z own_EL s.vm h185 o123 := B_h185.safe (show @LT.lt Nat _ _ _ by omega) sf_o123_h144
              have lt_b_185 : @LT.lt Nat _ b_185 h185.size := f186.lt
              have lt_tb_185 : @LT.lt Nat _ tb_185 h185.size := f189.lt
              refine own_via (T185.setTop (mkF m 276 #[.val (.int i0), .val (.int i1), .val (.int i2), .val (.int i3), .val (.int i4), .val (.int (4 : Int32)), .val (.int pp), .val (.int z0), .val (.int z1), .val (.int z2), .val (.int z3), .val (.ref o122), .val (.int (3 : Int32)), .unset] [(.ref b_185)])) (st185) ?_
              refine own_via (T185.setTop (mkF m 278 #[.val (.int i0), .val (.int i1), .val (.int i2), .val (.int i3), .val (.int i4), .val (.int (4 : Int32)), .val (.int pp), .val (.int z0), .val (.int z1), .val (.int z2), .val (.int z3), .val (.ref o122), .val (.int (3 : Int32)), .val (.ref b_185)] [])) (fun t k => XS.astore X185.here hx rfl (hb hby at_276) rfl rfl (l' := #[.val (.int i0), .val (.int i1), .val (.int i2), .val (.int i3), .val (.int i4), .val (.int (4 : Int32)), .val (.int pp), .val (.int z0), .val (.int z1), .val (.int z2), .val (.int z3), .val (.ref o122), .val (.int (3 : Int32)), .val (.ref b_185)]) rfl k) ?_
              refine own_via (T185.setTop (mkF m 280 #[.val (.int i0), .val (.int i1), .val (.int i2), .val (.int i3), .val (.int i4), .val (.int (4 : Int32)), .val (.int pp), .val (.int z0), .val (.int z1), .val (.int z2), .val (.int z3), .val (.ref o122), .val (.int (3 : Int32)), .val (.ref b_185)] [(.ref b_185)])) (fun t k => XS.aload X185.here hx rfl (hb hby at_278) rfl rfl k) ?_
              refine own_via (T185.setTop (mkF m 283 #[.val (.int i0), .val (.int i1), .val (.int i2), .val (.int i3), .val (.int i4), .val (.int (4 : Int32)), .val (.int pp), .val (.int z0), .val (.int z1), .val (.int z2), .val (.int z3), .val (.ref o122), .val (.int (3 : Int32)), .val (.ref b_185)] [])) (fun t k => XS.ifnullNo X185.here hx rfl (hb hby at_280) rfl k) ?_
              refine own_via (T185.setTop (mkF m 285 #[.val (.int i0), .val (.int i1), .val (.int i2), .val (.int i3), .val (.int i4), .val (.int (4 : Int32)), .val (.int pp), .val (.int z0), .val (.int z1), .val (.int z2), .val (.int z3), .val (.ref o122), .val (.int (3 : Int32)), .val (.ref b_185)] [(.ref b_185)])) (fun t k => XS.aload X185.here hx rfl (hb hby at_283) rfl rfl k) ?_
              have hcd190 := StrChars.Road.codOf (cs := ((([z0, z1, z2, z3] : List Int32).drop 0).take 3)) (n := (((([z0, z1, z2, z3] : List Int32).drop 0).take 3) : List Int32).length) rfl (fun c hc => ((own_hpt hp 0 3) c hc).2)
              have hbd191 : ∀ c ∈ (((([z0, z1, z2, z3] : List Int32).drop 0).take 3) : List Int32), ¬ c < 0 ∧ ¬ (65535 : Int32) < c := fun c hc => own_up ((own_hpt hp 0 3) c hc)
              have f192 : Old Z n0 h185 := (f184.keep Kq185 all0)
              obtain ⟨v193, T193, h193, L193, X193, e193, q193, st193⟩ := own_cV X185 hx hZ (y := (⟨"java/lang/String", "length", "()I"⟩ : MethodName)) (z := (⟨"java/lang/String", "length", "()I"⟩ : MethodName)) hown (hw _ (List.mem_of_getElem? (i := 93) rfl)) (hw _ (List.mem_of_getElem? (i := 44) rfl)) (notFace_of_selects (args := #[]) (mvT hZ (hw _ (List.mem_of_getElem? (i := 46) rfl)))) (hw _ (List.mem_of_getElem? (i := 46) rfl)) (hw _ (List.mem_of_getElem? (i := 45) rfl)) (by decide) (W := 0) (k := 0) (j := 0) (Q := fun v h' L => v = some (.int (Int32.ofNat (((([z0, z1, z2, z3] : List Int32).drop 0).take 3) : List Int32).length)) ∧ L = [] ∧ h' = h185) (StrChars.Road.lenW (cs := ((([z0, z1, z2, z3] : List Int32).drop 0).take 3)) hZ (own_hln hw) (kI := 4) (hw _ (List.mem_of_getElem? (i := 5) rfl)) f186 f187 f188 f189 hcd190 hbd191 (pf0.ext f192.2) hG1 (Nat.le_of_ble_eq_true rfl) (by decide) (by decide)) e185 f186 (Ls := #[.val (.int i0), .val (.int i1), .val (.int i2), .val (.int i3), .val (.int i4), .val (.int (4 : Int32)), .val (.int pp), .val (.int z0), .val (.int z1), .val (.int z2), .val (.int z3), .val (.ref o122), .val (.int (3 : Int32)), .val (.ref b_185)]) (by rw [hml]; rfl) (argsL := []) (rest := []) rfl (lenOf own_pd93735326 rfl) rfl (Nat.le_of_eq rfl) (hb hby at_285) (by decide) (by decide)
              obtain ⟨rfl, rfl, eq193⟩ := q193
              replace e193 := e193.trans eq193
              have N193 := Fr.app N185 (Fr.nil n0)
              refine own_via (T193.setTop (mkF m 288 #[.val (.int i0), .val (.int i1), .val (.int i2), .val (.int i3), .val (.int i4), .val (.int (4 : Int32)), .val (.int pp), .val (.int z0), .val (.int z1), .val (.int z2), .val (.int z3), .val (.ref o122), .val (.int (3 : Int32)), .val (.ref b_185)] [(.int (Int32.ofNat (((([z0, z1, z2, z3] : List Int32).drop 0).take 3) : List Int32).length))])) (st193) ?_
              refine own_via (T193.setTop (mkF m 290 #[.val (.int i0), .val (.int i1), .val (.int i2), .val (.int i3), .val (.int i4), .val (.int (4 : Int32)), .val (.int pp), .val (.int z0), .val (.int z1), .val (.int z2), .val (.int z3), .val (.ref o122), .val (.int (3 : Int32)), .val (.ref b_185)] [(.int (3 : Int32)), (.int (Int32.ofNat (((([z0, z1, z2, z3] : List Int32).drop 0).take 3) : List Int32).length))])) (fun t k => XS.iload X193.here hx rfl (hb hby at_288) rfl k) ?_
              refine own_via (T193.setTop (mkF m 295 #[.val (.int i0), .val (.int i1), .val (.int i2), .val (.int i3), .val (.int i4), .val (.int (4 : Int32)), .val (.int pp), .val (.int z0), .val (.int z1), .val (.int z2), .val (.int z3), .val (.ref o122), .val (.int (3 : Int32)), .val (.ref b_185)] [])) (fun t k => XS.icmpYes X193.here hx rfl (pc0 := 290) (pc' := 295) rfl (hb hby at_290) rfl (XT.ii_eq_t rfl) (by decide) (by decide) k) ?_
              refine own_via (T193.setTop (mkF m 297 #[.val (.int i0), .val (.int i1), .val (.int i2), .val (.int i3), .val (.int i4), .val (.int (4 : Int32)), .val (.int pp), .val (.int z0), .val (.int z1), .val (.int z2), .val (.int z3), .val (.ref o122), .val (.int (3 : Int32)), .val (.ref b_185)] [(.int (3 : Int32))])) (fun t k => XS.iload X193.here hx rfl (hb hby at_295) rfl k) ?_
              refine own_via (T193.setTop (mkF m 300 #[.val (.int i0), .val (.int i1), .val (.int i2), .val (.int i3), .val (.int i4), .val (.int (4 : Int32)), .val (.int pp), .val (.int z0), .val (.int z1), .val (.int z2), .val (.int z3), .val (.ref o122), .val (.int (3 : Int32)), .val (.ref b_185)] [])) (fun t k => XS.ifNo X193.here hx rfl (hb hby at_297) rfl (by decide) k) ?_
              refine own_via (T193.setTop (mkF m 302 #[.val (.int i0), .val (.int i1), .val (.int i2), .val (.int i3), .val (.int i4), .val (.int (4 : Int32)), .val (.int pp), .val (.int z0), .val (.int z1), .val (.int z2), .val (.int z3), .val (.ref o122), .val (.int (3 : Int32)), .val (.ref b_185)] [(.ref b_185)])) (fun t k => XS.aload X193.here hx rfl (hb hby at_300) rfl rfl k) ?_
              refine own_via (T193.setTop (mkF m 303 #[.val (.int i0), .val (.int i1), .val (.int i2), .val (.int i3), .val (.int i4), .val (.int (4 : Int32)), .val (.int pp), .val (.int z0), .val (.int z1), .val (.int z2), .val (.int z3), .val (.ref o122), .val (.int (3 : Int32)), .val (.ref b_185)] [(.int (0 : Int32)), (.ref b_185)])) (fun t k => XS.iconst X193.here hx rfl (hb hby at_302) k) ?_
              have hcd194 := StrChars.Road.codOf (cs := ((([z0, z1, z2, z3] : List Int32).drop 0).take 3)) (n := (((([z0, z1, z2, z3] : List Int32).drop 0).take 3) : List Int32).length) rfl (fun c hc => ((own_hpt hp 0 3) c hc).2)
              have hbd195 : ∀ c ∈ (((([z0, z1, z2, z3] : List Int32).drop 0).take 3) : List Int32), ¬ c < 0 ∧ ¬ (65535 : Int32) < c := fun c hc => own_up ((own_hpt hp 0 3) c hc)
              obtain ⟨v196, T196, h196, L196, X196, e196, q196, st196⟩ := own_cV X193 hx hZ (y := (⟨"java/lang/String", "charAt", "(I)C"⟩ : MethodName)) (z := (⟨"java/lang/String", "charAt", "(I)C"⟩ : MethodName)) hown (hw _ (List.mem_of_getElem? (i := 113) rfl)) (hw _ (List.mem_of_getElem? (i := 114) rfl)) (notFace_of_selects (args := #[]) (mvT hZ (hw _ (List.mem_of_getElem? (i := 116) rfl)))) (hw _ (List.mem_of_getElem? (i := 116) rfl)) (hw _ (List.mem_of_getElem? (i := 115) rfl)) (by decide) (W := 0) (k := 0) (j := 0) (Q := fun v h' L => v = some (.int ((((([z0, z1, z2, z3] : List Int32).drop 0).take 3) : List Int32).getD 0 0)) ∧ L = [] ∧ h' = h185) (StrChars.Road.chN (cs := ((([z0, z1, z2, z3] : List Int32).drop 0).take 3)) hZ (own_hch hw) (kI := 4) (hw _ (List.mem_of_getElem? (i := 5) rfl)) f186 f187 f188 f189 hcd194 hbd195 (pf0.ext f192.2) hG1 (pf1.ext f192.2) rfm (Nat.le_of_ble_eq_true rfl) (i := 0) (Nat.le_of_ble_eq_true rfl) rfl (by decide) (by decide)) e193 f186 (Ls := #[.val (.int i0), .val (.int i1), .val (.int i2), .val (.int i3), .val (.int i4), .val (.int (4 : Int32)), .val (.int pp), .val (.int z0), .val (.int z1), .val (.int z2), .val (.int z3), .val (.ref o122), .val (.int (3 : Int32)), .val (.ref b_185)]) (by rw [hml]; rfl) (argsL := [(.int (0 : Int32))]) (rest := []) rfl (lenOf own_pd55318145 rfl) rfl (Nat.le_of_eq rfl) (hb hby at_303) (by decide) (by decide)
              obtain ⟨rfl, rfl, eq196⟩ := q196
              replace e196 := e196.trans eq196
              have N196 := Fr.app N193 (Fr.nil n0)
              refine own_via (T196.setTop (mkF m 306 #[.val (.int i0), .val (.int i1), .val (.int i2), .val (.int i3), .val (.int i4), .val (.int (4 : Int32)), .val (.int pp), .val (.int z0), .val (.int z1), .val (.int z2), .val (.int z3), .val (.ref o122), .val (.int (3 : Int32)), .val (.ref b_185)] [(.int ((((([z0, z1, z2, z3] : List Int32).drop 0).take 3) : List Int32).getD 0 0))])) (st196) ?_
              refine own_via (T196.setTop (mkF m 308 #[.val (.int i0), .val (.int i1), .val (.int i2), .val (.int i3), .val (.int i4), .val (.int (4 : Int32)), .val (.int pp), .val (.int z0), .val (.int z1), .val (.int z2), .val (.int z3), .val (.ref o122), .val (.int (3 : Int32)), .val (.ref b_185)] [(.int z0), (.int ((((([z0, z1, z2, z3] : List Int32).drop 0).take 3) : List Int32).getD 0 0))])) (fun t k => XS.iload X196.here hx rfl (hb hby at_306) rfl k) ?_
              refine own_via (T196.setTop (mkF m 313 #[.val (.int i0), .val (.int i1), .val (.int i2), .val (.int i3), .val (.int i4), .val (.int (4 : Int32)), .val (.int pp), .val (.int z0), .val (.int z1), .val (.int z2), .val (.int z3), .val (.ref o122), .val (.int (3 : Int32)), .val (.ref b_185)] [])) (fun t k => XS.icmpYes X196.here hx rfl (pc0 := 308) (pc' := 313) rfl (hb hby at_308) rfl (XT.ii_eq_t rfl) (by decide) (by decide) k) ?_
              refine own_via (T196.setTop (mkF m 315 #[.val (.int i0), .val (.int i1), .val (.int i2), .val (.int i3), .val (.int i4), .val (.int (4 : Int32)), .val (.int pp), .val (.int z0), .val (.int z1), .val (.int z2), .val (.int z3), .val (.ref o122), .val (.int (3 : Int32)), .val (.ref b_185)] [(.int (3 : Int32))])) (fun t k => XS.iload X196.here hx rfl (hb hby at_313) rfl k) ?_
              refine own_via (T196.setTop (mkF m 316 #[.val (.int i0), .val (.int i1), .val (.int i2), .val (.int i3), .val (.int i4), .val (.int (4 : Int32)), .val (.int pp), .val (.int z0), .val (.int z1), .val (.int z2), .val (.int z3), .val (.ref o122), .val (.int (3 : Int32)), .val (.ref b_185)] [(.int (1 : Int32)), (.int (3 : Int32))])) (fun t k => XS.iconst X196.here hx rfl (hb hby at_315) k) ?_
              refine own_via (T196.setTop (mkF m 319 #[.val (.int i0), .val (.int i1), .val (.int i2), .val (.int i3), .val (.int i4), .val (.int (4 : Int32)), .val (.int pp), .val (.int z0), .val (.int z1), .val (.int z2), .val (.int z3), .val (.ref o122), .val (.int (3 : Int32)), .val (.ref b_185)] [])) (fun t k => XS.icmpNo X196.here hx rfl (hb hby at_316) rfl (by decide) k) ?_
              refine own_via (T196.setTop (mkF m 321 #[.val (.int i0), .val (.int i1), .val (.int i2), .val (.int i3), .val (.int i4), .val (.int (4 : Int32)), .val (.int pp), .val (.int z0), .val (.int z1), .val (.int z2), .val (.int z3), .val (.ref o122), .val (.int (3 : Int32)), .val (.ref b_185)] [(.ref b_185)])) (fun t k => XS.aload X196.here hx rfl (hb hby at_319) rfl rfl k) ?_
              refine own_via (T196.setTop (mkF m 322 #[.val (.int i0), .val (.int i1), .val (.int i2), .val (.int i3), .val (.int i4), .val (.int (4 : Int32)), .val (.int pp), .val (.int z0), .val (.int z1), .val (.int z2), .val (.int z3), .val (.ref o122), .val (.int (3 : Int32)), .val (.ref b_185)] [(.int (1 : Int32)), (.ref b_185)])) (fun t k => XS.iconst X196.here hx rfl (hb hby at_321) k) ?_
              have hcd197 := StrChars.Road.codOf (cs := ((([z0, z1, z2, z3] : List Int32).drop 0).take 3)) (n := (((([z0, z1, z2, z3] : List Int32).drop 0).take 3) : List Int32).length) rfl (fun c hc => ((own_hpt hp 0 3) c hc).2)
              have hbd198 : ∀ c ∈ (((([z0, z1, z2, z3] : List Int32).drop 0).take 3) : List Int32), ¬ c < 0 ∧ ¬ (65535 : Int32) < c := fun c hc => own_up ((own_hpt hp 0 3) c hc)
              obtain ⟨v199, T199, h199, L199, X199, e199, q199, st199⟩ := own_cV X196 hx hZ (y := (⟨"java/lang/String", "charAt", "(I)C"⟩ : MethodName)) (z := (⟨"java/lang/String", "charAt", "(I)C"⟩ : MethodName)) hown (hw _ (List.mem_of_getElem? (i := 113) rfl)) (hw _ (List.mem_of_getElem? (i := 114) rfl)) (notFace_of_selects (args := #[]) (mvT hZ (hw _ (List.mem_of_getElem? (i := 116) rfl)))) (hw _ (List.mem_of_getElem? (i := 116) rfl)) (hw _ (List.mem_of_getElem? (i := 115) rfl)) (by decide) (W := 0) (k := 0) (j := 0) (Q := fun v h' L => v = some (.int ((((([z0, z1, z2, z3] : List Int32).drop 0).take 3) : List Int32).getD 1 0)) ∧ L = [] ∧ h' = h185) (StrChars.Road.chN (cs := ((([z0, z1, z2, z3] : List Int32).drop 0).take 3)) hZ (own_hch hw) (kI := 4) (hw _ (List.mem_of_getElem? (i := 5) rfl)) f186 f187 f188 f189 hcd197 hbd198 (pf0.ext f192.2) hG1 (pf1.ext f192.2) rfm (Nat.le_of_ble_eq_true rfl) (i := 1) (Nat.le_of_ble_eq_true rfl) rfl (by decide) (by decide)) e196 f186 (Ls := #[.val (.int i0), .val (.int i1), .val (.int i2), .val (.int i3), .val (.int i4), .val (.int (4 : Int32)), .val (.int pp), .val (.int z0), .val (.int z1), .val (.int z2), .val (.int z3), .val (.ref o122), .val (.int (3 : Int32)), .val (.ref b_185)]) (by rw [hml]; rfl) (argsL := [(.int (1 : Int32))]) (rest := []) rfl (lenOf own_pd55318145 rfl) rfl (Nat.le_of_eq rfl) (hb hby at_322) (by decide) (by decide)
              obtain ⟨rfl, rfl, eq199⟩ := q199
              replace e199 := e199.trans eq199
              have N199 := Fr.app N196 (Fr.nil n0)
              refine own_via (T199.setTop (mkF m 325 #[.val (.int i0), .val (.int i1), .val (.int i2), .val (.int i3), .val (.int i4), .val (.int (4 : Int32)), .val (.int pp), .val (.int z0), .val (.int z1), .val (.int z2), .val (.int z3), .val (.ref o122), .val (.int (3 : Int32)), .val (.ref b_185)] [(.int ((((([z0, z1, z2, z3] : List Int32).drop 0).take 3) : List Int32).getD 1 0))])) (st199) ?_
              refine own_via (T199.setTop (mkF m 327 #[.val (.int i0), .val (.int i1), .val (.int i2), .val (.int i3), .val (.int i4), .val (.int (4 : Int32)), .val (.int pp), .val (.int z0), .val (.int z1), .val (.int z2), .val (.int z3), .val (.ref o122), .val (.int (3 : Int32)), .val (.ref b_185)] [(.int z1), (.int ((((([z0, z1, z2, z3] : List Int32).drop 0).take 3) : List Int32).getD 1 0))])) (fun t k => XS.iload X199.here hx rfl (hb hby at_325) rfl k) ?_
              refine own_via (T199.setTop (mkF m 332 #[.val (.int i0), .val (.int i1), .val (.int i2), .val (.int i3), .val (.int i4), .val (.int (4 : Int32)), .val (.int pp), .val (.int z0), .val (.int z1), .val (.int z2), .val (.int z3), .val (.ref o122), .val (.int (3 : Int32)), .val (.ref b_185)] [])) (fun t k => XS.icmpYes X199.here hx rfl (pc0 := 327) (pc' := 332) rfl (hb hby at_327) rfl (XT.ii_eq_t rfl) (by decide) (by decide) k) ?_
              refine own_via (T199.setTop (mkF m 334 #[.val (.int i0), .val (.int i1), .val (.int i2), .val (.int i3), .val (.int i4), .val (.int (4 : Int32)), .val (.int pp), .val (.int z0), .val (.int z1), .val (.int z2), .val (.int z3), .val (.ref o122), .val (.int (3 : Int32)), .val (.ref b_185)] [(.int (3 : Int32))])) (fun t k => XS.iload X199.here hx rfl (hb hby at_332) rfl k) ?_
              refine own_via (T199.setTop (mkF m 335 #[.val (.int i0), .val (.int i1), .val (.int i2), .val (.int i3), .val (.int i4), .val (.int (4 : Int32)), .val (.int pp), .val (.int z0), .val (.int z1), .val (.int z2), .val (.int z3), .val (.ref o122), .val (.int (3 : Int32)), .val (.ref b_185)] [(.int (2 : Int32)), (.int (3 : Int32))])) (fun t k => XS.iconst X199.here hx rfl (hb hby at_334) k) ?_
              refine own_via (T199.setTop (mkF m 338 #[.val (.int i0), .val (.int i1), .val (.int i2), .val (.int i3), .val (.int i4), .val (.int (4 : Int32)), .val (.int pp), .val (.int z0), .val (.int z1), .val (.int z2), .val (.int z3), .val (.ref o122), .val (.int (3 : Int32)), .val (.ref b_185)] [])) (fun t k => XS.icmpNo X199.here hx rfl (hb hby at_335) rfl (by decide) k) ?_
              refine own_via (T199.setTop (mkF m 340 #[.val (.int i0), .val (.int i1), .val (.int i2), .val (.int i3), .val (.int i4), .val (.int (4 : Int32)), .val (.int pp), .val (.int z0), .val (.int z1), .val (.int z2), .val (.int z3), .val (.ref o122), .val (.int (3 : Int32)), .val (.ref b_185)] [(.ref b_185)])) (fun t k => XS.aload X199.here hx rfl (hb hby at_338) rfl rfl k) ?_
              refine own_via (T199.setTop (mkF m 341 #[.val (.int i0), .val (.int i1), .val (.int i2), .val (.int i3), .val (.int i4), .val (.int (4 : Int32)), .val (.int pp), .val (.int z0), .val (.int z1), .val (.int z2), .val (.int z3), .val (.ref o122), .val (.int (3 : Int32)), .val (.ref b_185)] [(.int (2 : Int32)), (.ref b_185)])) (fun t k => XS.iconst X199.here hx rfl (hb hby at_340) k) ?_
              have hcd200 := StrChars.Road.codOf (cs := ((([z0, z1, z2, z3] : List Int32).drop 0).take 3)) (n := (((([z0, z1, z2, z3] : List Int32).drop 0).take 3) : List Int32).length) rfl (fun c hc => ((own_hpt hp 0 3) c hc).2)
              have hbd201 : ∀ c ∈ (((([z0, z1, z2, z3] : List Int32).drop 0).take 3) : List Int32), ¬ c < 0 ∧ ¬ (65535 : Int32) < c := fun c hc => own_up ((own_hpt hp 0 3) c hc)
              obtain ⟨v202, T202, h202, L202, X202, e202, q202, st202⟩ := own_cV X199 hx hZ (y := (⟨"java/lang/String", "charAt", "(I)C"⟩ : MethodName)) (z := (⟨"java/lang/String", "charAt", "(I)C"⟩ : MethodName)) hown (hw _ (List.mem_of_getElem? (i := 113) rfl)) (hw _ (List.mem_of_getElem? (i := 114) rfl)) (notFace_of_selects (args := #[]) (mvT hZ (hw _ (List.mem_of_getElem? (i := 116) rfl)))) (hw _ (List.mem_of_getElem? (i := 116) rfl)) (hw _ (List.mem_of_getElem? (i := 115) rfl)) (by decide) (W := 0) (k := 0) (j := 0) (Q := fun v h' L => v = some (.int ((((([z0, z1, z2, z3] : List Int32).drop 0).take 3) : List Int32).getD 2 0)) ∧ L = [] ∧ h' = h185) (StrChars.Road.chN (cs := ((([z0, z1, z2, z3] : List Int32).drop 0).take 3)) hZ (own_hch hw) (kI := 4) (hw _ (List.mem_of_getElem? (i := 5) rfl)) f186 f187 f188 f189 hcd200 hbd201 (pf0.ext f192.2) hG1 (pf1.ext f192.2) rfm (Nat.le_of_ble_eq_true rfl) (i := 2) (Nat.le_of_ble_eq_true rfl) rfl (by decide) (by decide)) e199 f186 (Ls := #[.val (.int i0), .val (.int i1), .val (.int i2), .val (.int i3), .val (.int i4), .val (.int (4 : Int32)), .val (.int pp), .val (.int z0), .val (.int z1), .val (.int z2), .val (.int z3), .val (.ref o122), .val (.int (3 : Int32)), .val (.ref b_185)]) (by rw [hml]; rfl) (argsL := [(.int (2 : Int32))]) (rest := []) rfl (lenOf own_pd55318145 rfl) rfl (Nat.le_of_eq rfl) (hb hby at_341) (by decide) (by decide)
              obtain ⟨rfl, rfl, eq202⟩ := q202
              replace e202 := e202.trans eq202
              have N202 := Fr.app N199 (Fr.nil n0)
              refine own_via (T202.setTop (mkF m 344 #[.val (.int i0), .val (.int i1), .val (.int i2), .val (.int i3), .val (.int i4), .val (.int (4 : Int32)), .val (.int pp), .val (.int z0), .val (.int z1), .val (.int z2), .val (.int z3), .val (.ref o122), .val (.int (3 : Int32)), .val (.ref b_185)] [(.int ((((([z0, z1, z2, z3] : List Int32).drop 0).take 3) : List Int32).getD 2 0))])) (st202) ?_
              refine own_via (T202.setTop (mkF m 346 #[.val (.int i0), .val (.int i1), .val (.int i2), .val (.int i3), .val (.int i4), .val (.int (4 : Int32)), .val (.int pp), .val (.int z0), .val (.int z1), .val (.int z2), .val (.int z3), .val (.ref o122), .val (.int (3 : Int32)), .val (.ref b_185)] [(.int z2), (.int ((((([z0, z1, z2, z3] : List Int32).drop 0).take 3) : List Int32).getD 2 0))])) (fun t k => XS.iload X202.here hx rfl (hb hby at_344) rfl k) ?_
              refine own_via (T202.setTop (mkF m 351 #[.val (.int i0), .val (.int i1), .val (.int i2), .val (.int i3), .val (.int i4), .val (.int (4 : Int32)), .val (.int pp), .val (.int z0), .val (.int z1), .val (.int z2), .val (.int z3), .val (.ref o122), .val (.int (3 : Int32)), .val (.ref b_185)] [])) (fun t k => XS.icmpYes X202.here hx rfl (pc0 := 346) (pc' := 351) rfl (hb hby at_346) rfl (XT.ii_eq_t rfl) (by decide) (by decide) k) ?_
              refine own_via (T202.setTop (mkF m 352 #[.val (.int i0), .val (.int i1), .val (.int i2), .val (.int i3), .val (.int i4), .val (.int (4 : Int32)), .val (.int pp), .val (.int z0), .val (.int z1), .val (.int z2), .val (.int z3), .val (.ref o122), .val (.int (3 : Int32)), .val (.ref b_185)] [(.int (1 : Int32))])) (fun t k => XS.iconst X202.here hx rfl (hb hby at_351) k) ?_
              exact own_leaveH X202 hlk hZ (own_EW hw) hS0 (by omega) e202 C_h185 (v := some (.int (nar .boolean (1 : Int32)))) (fun h => by rw [hret] at h; cases h) (⟨rfl, N202⟩) (by decide) (by decide) (fun fs hr => retN X202 hx (t := .boolean) hret (by simp) (hb hby at_352) hr)
            by_cases q0 : z0 = (58 : Int32)
            · refine own_via (T144.setTop (mkF m 220 #[.val (.int i0), .val (.int i1), .val (.int i2), .val (.int i3), .val (.int i4), .val (.int (4 : Int32)), .val (.int pp), .val (.int z0), .val (.int z1), .val (.int z2), .val (.int z3), .val (.ref o122), .val (.int (-1 : Int32)), .unset] [])) (fun t k => XS.icmpNo X144.here hx rfl (hb hby at_217) rfl (XT.ii_ne_f q0) k) ?_
              refine own_via (T144.setTop (mkF m 221 #[.val (.int i0), .val (.int i1), .val (.int i2), .val (.int i3), .val (.int i4), .val (.int (4 : Int32)), .val (.int pp), .val (.int z0), .val (.int z1), .val (.int z2), .val (.int z3), .val (.ref o122), .val (.int (-1 : Int32)), .unset] [(.int (0 : Int32))])) (fun t k => XS.iconst X144.here hx rfl (hb hby at_220) k) ?_
              refine own_via (T144.setTop (mkF m 223 #[.val (.int i0), .val (.int i1), .val (.int i2), .val (.int i3), .val (.int i4), .val (.int (4 : Int32)), .val (.int pp), .val (.int z0), .val (.int z1), .val (.int z2), .val (.int z3), .val (.ref o122), .val (.int (0 : Int32)), .unset] [])) (fun t k => XS.istore X144.here hx rfl (hb hby at_221) rfl (l' := #[.val (.int i0), .val (.int i1), .val (.int i2), .val (.int i3), .val (.int i4), .val (.int (4 : Int32)), .val (.int pp), .val (.int z0), .val (.int z1), .val (.int z2), .val (.int z3), .val (.ref o122), .val (.int (0 : Int32)), .unset]) rfl k) ?_
              refine own_via (T144.setTop (mkF m 225 #[.val (.int i0), .val (.int i1), .val (.int i2), .val (.int i3), .val (.int i4), .val (.int (4 : Int32)), .val (.int pp), .val (.int z0), .val (.int z1), .val (.int z2), .val (.int z3), .val (.ref o122), .val (.int (0 : Int32)), .unset] [(.int (4 : Int32))])) (fun t k => XS.iload X144.here hx rfl (hb hby at_223) rfl k) ?_
              refine own_via (T144.setTop (mkF m 226 #[.val (.int i0), .val (.int i1), .val (.int i2), .val (.int i3), .val (.int i4), .val (.int (4 : Int32)), .val (.int pp), .val (.int z0), .val (.int z1), .val (.int z2), .val (.int z3), .val (.ref o122), .val (.int (0 : Int32)), .unset] [(.int (1 : Int32)), (.int (4 : Int32))])) (fun t k => XS.iconst X144.here hx rfl (hb hby at_225) k) ?_
              refine own_via (T144.setTop (mkF m 229 #[.val (.int i0), .val (.int i1), .val (.int i2), .val (.int i3), .val (.int i4), .val (.int (4 : Int32)), .val (.int pp), .val (.int z0), .val (.int z1), .val (.int z2), .val (.int z3), .val (.ref o122), .val (.int (0 : Int32)), .unset] [])) (fun t k => XS.icmpNo X144.here hx rfl (hb hby at_226) rfl (by decide) k) ?_
              refine own_via (T144.setTop (mkF m 231 #[.val (.int i0), .val (.int i1), .val (.int i2), .val (.int i3), .val (.int i4), .val (.int (4 : Int32)), .val (.int pp), .val (.int z0), .val (.int z1), .val (.int z2), .val (.int z3), .val (.ref o122), .val (.int (0 : Int32)), .unset] [(.int z1)])) (fun t k => XS.iload X144.here hx rfl (hb hby at_229) rfl k) ?_
              refine own_via (T144.setTop (mkF m 233 #[.val (.int i0), .val (.int i1), .val (.int i2), .val (.int i3), .val (.int i4), .val (.int (4 : Int32)), .val (.int pp), .val (.int z0), .val (.int z1), .val (.int z2), .val (.int z3), .val (.ref o122), .val (.int (0 : Int32)), .unset] [(.int (58 : Int32)), (.int z1)])) (fun t k => XS.bipush X144.here hx rfl (hb hby at_231) k) ?_
              by_cases q1 : z1 = (58 : Int32)
              · refine own_via (T144.setTop (mkF m 236 #[.val (.int i0), .val (.int i1), .val (.int i2), .val (.int i3), .val (.int i4), .val (.int (4 : Int32)), .val (.int pp), .val (.int z0), .val (.int z1), .val (.int z2), .val (.int z3), .val (.ref o122), .val (.int (0 : Int32)), .unset] [])) (fun t k => XS.icmpNo X144.here hx rfl (hb hby at_233) rfl (XT.ii_ne_f q1) k) ?_
                refine own_via (T144.setTop (mkF m 237 #[.val (.int i0), .val (.int i1), .val (.int i2), .val (.int i3), .val (.int i4), .val (.int (4 : Int32)), .val (.int pp), .val (.int z0), .val (.int z1), .val (.int z2), .val (.int z3), .val (.ref o122), .val (.int (0 : Int32)), .unset] [(.int (1 : Int32))])) (fun t k => XS.iconst X144.here hx rfl (hb hby at_236) k) ?_
                refine own_via (T144.setTop (mkF m 239 #[.val (.int i0), .val (.int i1), .val (.int i2), .val (.int i3), .val (.int i4), .val (.int (4 : Int32)), .val (.int pp), .val (.int z0), .val (.int z1), .val (.int z2), .val (.int z3), .val (.ref o122), .val (.int (1 : Int32)), .unset] [])) (fun t k => XS.istore X144.here hx rfl (hb hby at_237) rfl (l' := #[.val (.int i0), .val (.int i1), .val (.int i2), .val (.int i3), .val (.int i4), .val (.int (4 : Int32)), .val (.int pp), .val (.int z0), .val (.int z1), .val (.int z2), .val (.int z3), .val (.ref o122), .val (.int (1 : Int32)), .unset]) rfl k) ?_
                refine own_via (T144.setTop (mkF m 241 #[.val (.int i0), .val (.int i1), .val (.int i2), .val (.int i3), .val (.int i4), .val (.int (4 : Int32)), .val (.int pp), .val (.int z0), .val (.int z1), .val (.int z2), .val (.int z3), .val (.ref o122), .val (.int (1 : Int32)), .unset] [(.int (4 : Int32))])) (fun t k => XS.iload X144.here hx rfl (hb hby at_239) rfl k) ?_
                refine own_via (T144.setTop (mkF m 242 #[.val (.int i0), .val (.int i1), .val (.int i2), .val (.int i3), .val (.int i4), .val (.int (4 : Int32)), .val (.int pp), .val (.int z0), .val (.int z1), .val (.int z2), .val (.int z3), .val (.ref o122), .val (.int (1 : Int32)), .unset] [(.int (2 : Int32)), (.int (4 : Int32))])) (fun t k => XS.iconst X144.here hx rfl (hb hby at_241) k) ?_
                refine own_via (T144.setTop (mkF m 245 #[.val (.int i0), .val (.int i1), .val (.int i2), .val (.int i3), .val (.int i4), .val (.int (4 : Int32)), .val (.int pp), .val (.int z0), .val (.int z1), .val (.int z2), .val (.int z3), .val (.ref o122), .val (.int (1 : Int32)), .unset] [])) (fun t k => XS.icmpNo X144.here hx rfl (hb hby at_242) rfl (by decide) k) ?_
                refine own_via (T144.setTop (mkF m 247 #[.val (.int i0), .val (.int i1), .val (.int i2), .val (.int i3), .val (.int i4), .val (.int (4 : Int32)), .val (.int pp), .val (.int z0), .val (.int z1), .val (.int z2), .val (.int z3), .val (.ref o122), .val (.int (1 : Int32)), .unset] [(.int z2)])) (fun t k => XS.iload X144.here hx rfl (hb hby at_245) rfl k) ?_
                refine own_via (T144.setTop (mkF m 249 #[.val (.int i0), .val (.int i1), .val (.int i2), .val (.int i3), .val (.int i4), .val (.int (4 : Int32)), .val (.int pp), .val (.int z0), .val (.int z1), .val (.int z2), .val (.int z3), .val (.ref o122), .val (.int (1 : Int32)), .unset] [(.int (58 : Int32)), (.int z2)])) (fun t k => XS.bipush X144.here hx rfl (hb hby at_247) k) ?_
                by_cases q2 : z2 = (58 : Int32)
                · refine own_via (T144.setTop (mkF m 252 #[.val (.int i0), .val (.int i1), .val (.int i2), .val (.int i3), .val (.int i4), .val (.int (4 : Int32)), .val (.int pp), .val (.int z0), .val (.int z1), .val (.int z2), .val (.int z3), .val (.ref o122), .val (.int (1 : Int32)), .unset] [])) (fun t k => XS.icmpNo X144.here hx rfl (hb hby at_249) rfl (XT.ii_ne_f q2) k) ?_
                  refine own_via (T144.setTop (mkF m 253 #[.val (.int i0), .val (.int i1), .val (.int i2), .val (.int i3), .val (.int i4), .val (.int (4 : Int32)), .val (.int pp), .val (.int z0), .val (.int z1), .val (.int z2), .val (.int z3), .val (.ref o122), .val (.int (1 : Int32)), .unset] [(.int (2 : Int32))])) (fun t k => XS.iconst X144.here hx rfl (hb hby at_252) k) ?_
                  refine own_via (T144.setTop (mkF m 255 #[.val (.int i0), .val (.int i1), .val (.int i2), .val (.int i3), .val (.int i4), .val (.int (4 : Int32)), .val (.int pp), .val (.int z0), .val (.int z1), .val (.int z2), .val (.int z3), .val (.ref o122), .val (.int (2 : Int32)), .unset] [])) (fun t k => XS.istore X144.here hx rfl (hb hby at_253) rfl (l' := #[.val (.int i0), .val (.int i1), .val (.int i2), .val (.int i3), .val (.int i4), .val (.int (4 : Int32)), .val (.int pp), .val (.int z0), .val (.int z1), .val (.int z2), .val (.int z3), .val (.ref o122), .val (.int (2 : Int32)), .unset]) rfl k) ?_
                  refine own_via (T144.setTop (mkF m 257 #[.val (.int i0), .val (.int i1), .val (.int i2), .val (.int i3), .val (.int i4), .val (.int (4 : Int32)), .val (.int pp), .val (.int z0), .val (.int z1), .val (.int z2), .val (.int z3), .val (.ref o122), .val (.int (2 : Int32)), .unset] [(.int (4 : Int32))])) (fun t k => XS.iload X144.here hx rfl (hb hby at_255) rfl k) ?_
                  refine own_via (T144.setTop (mkF m 258 #[.val (.int i0), .val (.int i1), .val (.int i2), .val (.int i3), .val (.int i4), .val (.int (4 : Int32)), .val (.int pp), .val (.int z0), .val (.int z1), .val (.int z2), .val (.int z3), .val (.ref o122), .val (.int (2 : Int32)), .unset] [(.int (3 : Int32)), (.int (4 : Int32))])) (fun t k => XS.iconst X144.here hx rfl (hb hby at_257) k) ?_
                  refine own_via (T144.setTop (mkF m 261 #[.val (.int i0), .val (.int i1), .val (.int i2), .val (.int i3), .val (.int i4), .val (.int (4 : Int32)), .val (.int pp), .val (.int z0), .val (.int z1), .val (.int z2), .val (.int z3), .val (.ref o122), .val (.int (2 : Int32)), .unset] [])) (fun t k => XS.icmpNo X144.here hx rfl (hb hby at_258) rfl (by decide) k) ?_
                  refine own_via (T144.setTop (mkF m 263 #[.val (.int i0), .val (.int i1), .val (.int i2), .val (.int i3), .val (.int i4), .val (.int (4 : Int32)), .val (.int pp), .val (.int z0), .val (.int z1), .val (.int z2), .val (.int z3), .val (.ref o122), .val (.int (2 : Int32)), .unset] [(.int z3)])) (fun t k => XS.iload X144.here hx rfl (hb hby at_261) rfl k) ?_
                  refine own_via (T144.setTop (mkF m 265 #[.val (.int i0), .val (.int i1), .val (.int i2), .val (.int i3), .val (.int i4), .val (.int (4 : Int32)), .val (.int pp), .val (.int z0), .val (.int z1), .val (.int z2), .val (.int z3), .val (.ref o122), .val (.int (2 : Int32)), .unset] [(.int (58 : Int32)), (.int z3)])) (fun t k => XS.bipush X144.here hx rfl (hb hby at_263) k) ?_
                  by_cases q3 : z3 = (58 : Int32)
                  · refine own_via (T144.setTop (mkF m 268 #[.val (.int i0), .val (.int i1), .val (.int i2), .val (.int i3), .val (.int i4), .val (.int (4 : Int32)), .val (.int pp), .val (.int z0), .val (.int z1), .val (.int z2), .val (.int z3), .val (.ref o122), .val (.int (2 : Int32)), .unset] [])) (fun t k => XS.icmpNo X144.here hx rfl (hb hby at_265) rfl (XT.ii_ne_f q3) k) ?_
                    refine own_via (T144.setTop (mkF m 269 #[.val (.int i0), .val (.int i1), .val (.int i2), .val (.int i3), .val (.int i4), .val (.int (4 : Int32)), .val (.int pp), .val (.int z0), .val (.int z1), .val (.int z2), .val (.int z3), .val (.ref o122), .val (.int (2 : Int32)), .unset] [(.int (3 : Int32))])) (fun t k => XS.iconst X144.here hx rfl (hb hby at_268) k) ?_
                    refine own_via (T144.setTop (mkF m 271 #[.val (.int i0), .val (.int i1), .val (.int i2), .val (.int i3), .val (.int i4), .val (.int (4 : Int32)), .val (.int pp), .val (.int z0), .val (.int z1), .val (.int z2), .val (.int z3), .val (.ref o122), .val (.int (3 : Int32)), .unset] [])) (fun t k => XS.istore X144.here hx rfl (hb hby at_269) rfl (l' := #[.val (.int i0), .val (.int i1), .val (.int i2), .val (.int i3), .val (.int i4), .val (.int (4 : Int32)), .val (.int pp), .val (.int z0), .val (.int z1), .val (.int z2), .val (.int z3), .val (.ref o122), .val (.int (3 : Int32)), .unset]) rfl k) ?_
                    exact J3 q3
                  · refine own_via (T144.setTop (mkF m 271 #[.val (.int i0), .val (.int i1), .val (.int i2), .val (.int i3), .val (.int i4), .val (.int (4 : Int32)), .val (.int pp), .val (.int z0), .val (.int z1), .val (.int z2), .val (.int z3), .val (.ref o122), .val (.int (2 : Int32)), .unset] [])) (fun t k => XS.icmpYes X144.here hx rfl (pc0 := 265) (pc' := 271) rfl (hb hby at_265) rfl (XT.ii_ne_t q3) (by decide) (by decide) k) ?_
                    exact J2 q2 q3
                · refine own_via (T144.setTop (mkF m 255 #[.val (.int i0), .val (.int i1), .val (.int i2), .val (.int i3), .val (.int i4), .val (.int (4 : Int32)), .val (.int pp), .val (.int z0), .val (.int z1), .val (.int z2), .val (.int z3), .val (.ref o122), .val (.int (1 : Int32)), .unset] [])) (fun t k => XS.icmpYes X144.here hx rfl (pc0 := 249) (pc' := 255) rfl (hb hby at_249) rfl (XT.ii_ne_t q2) (by decide) (by decide) k) ?_
                  refine own_via (T144.setTop (mkF m 257 #[.val (.int i0), .val (.int i1), .val (.int i2), .val (.int i3), .val (.int i4), .val (.int (4 : Int32)), .val (.int pp), .val (.int z0), .val (.int z1), .val (.int z2), .val (.int z3), .val (.ref o122), .val (.int (1 : Int32)), .unset] [(.int (4 : Int32))])) (fun t k => XS.iload X144.here hx rfl (hb hby at_255) rfl k) ?_
                  refine own_via (T144.setTop (mkF m 258 #[.val (.int i0), .val (.int i1), .val (.int i2), .val (.int i3), .val (.int i4), .val (.int (4 : Int32)), .val (.int pp), .val (.int z0), .val (.int z1), .val (.int z2), .val (.int z3), .val (.ref o122), .val (.int (1 : Int32)), .unset] [(.int (3 : Int32)), (.int (4 : Int32))])) (fun t k => XS.iconst X144.here hx rfl (hb hby at_257) k) ?_
                  refine own_via (T144.setTop (mkF m 261 #[.val (.int i0), .val (.int i1), .val (.int i2), .val (.int i3), .val (.int i4), .val (.int (4 : Int32)), .val (.int pp), .val (.int z0), .val (.int z1), .val (.int z2), .val (.int z3), .val (.ref o122), .val (.int (1 : Int32)), .unset] [])) (fun t k => XS.icmpNo X144.here hx rfl (hb hby at_258) rfl (by decide) k) ?_
                  refine own_via (T144.setTop (mkF m 263 #[.val (.int i0), .val (.int i1), .val (.int i2), .val (.int i3), .val (.int i4), .val (.int (4 : Int32)), .val (.int pp), .val (.int z0), .val (.int z1), .val (.int z2), .val (.int z3), .val (.ref o122), .val (.int (1 : Int32)), .unset] [(.int z3)])) (fun t k => XS.iload X144.here hx rfl (hb hby at_261) rfl k) ?_
                  refine own_via (T144.setTop (mkF m 265 #[.val (.int i0), .val (.int i1), .val (.int i2), .val (.int i3), .val (.int i4), .val (.int (4 : Int32)), .val (.int pp), .val (.int z0), .val (.int z1), .val (.int z2), .val (.int z3), .val (.ref o122), .val (.int (1 : Int32)), .unset] [(.int (58 : Int32)), (.int z3)])) (fun t k => XS.bipush X144.here hx rfl (hb hby at_263) k) ?_
                  by_cases q3 : z3 = (58 : Int32)
                  · refine own_via (T144.setTop (mkF m 268 #[.val (.int i0), .val (.int i1), .val (.int i2), .val (.int i3), .val (.int i4), .val (.int (4 : Int32)), .val (.int pp), .val (.int z0), .val (.int z1), .val (.int z2), .val (.int z3), .val (.ref o122), .val (.int (1 : Int32)), .unset] [])) (fun t k => XS.icmpNo X144.here hx rfl (hb hby at_265) rfl (XT.ii_ne_f q3) k) ?_
                    refine own_via (T144.setTop (mkF m 269 #[.val (.int i0), .val (.int i1), .val (.int i2), .val (.int i3), .val (.int i4), .val (.int (4 : Int32)), .val (.int pp), .val (.int z0), .val (.int z1), .val (.int z2), .val (.int z3), .val (.ref o122), .val (.int (1 : Int32)), .unset] [(.int (3 : Int32))])) (fun t k => XS.iconst X144.here hx rfl (hb hby at_268) k) ?_
                    refine own_via (T144.setTop (mkF m 271 #[.val (.int i0), .val (.int i1), .val (.int i2), .val (.int i3), .val (.int i4), .val (.int (4 : Int32)), .val (.int pp), .val (.int z0), .val (.int z1), .val (.int z2), .val (.int z3), .val (.ref o122), .val (.int (3 : Int32)), .unset] [])) (fun t k => XS.istore X144.here hx rfl (hb hby at_269) rfl (l' := #[.val (.int i0), .val (.int i1), .val (.int i2), .val (.int i3), .val (.int i4), .val (.int (4 : Int32)), .val (.int pp), .val (.int z0), .val (.int z1), .val (.int z2), .val (.int z3), .val (.ref o122), .val (.int (3 : Int32)), .unset]) rfl k) ?_
                    exact J3 q3
                  · refine own_via (T144.setTop (mkF m 271 #[.val (.int i0), .val (.int i1), .val (.int i2), .val (.int i3), .val (.int i4), .val (.int (4 : Int32)), .val (.int pp), .val (.int z0), .val (.int z1), .val (.int z2), .val (.int z3), .val (.ref o122), .val (.int (1 : Int32)), .unset] [])) (fun t k => XS.icmpYes X144.here hx rfl (pc0 := 265) (pc' := 271) rfl (hb hby at_265) rfl (XT.ii_ne_t q3) (by decide) (by decide) k) ?_
                    exact J1 q1 q2 q3
              · refine own_via (T144.setTop (mkF m 239 #[.val (.int i0), .val (.int i1), .val (.int i2), .val (.int i3), .val (.int i4), .val (.int (4 : Int32)), .val (.int pp), .val (.int z0), .val (.int z1), .val (.int z2), .val (.int z3), .val (.ref o122), .val (.int (0 : Int32)), .unset] [])) (fun t k => XS.icmpYes X144.here hx rfl (pc0 := 233) (pc' := 239) rfl (hb hby at_233) rfl (XT.ii_ne_t q1) (by decide) (by decide) k) ?_
                refine own_via (T144.setTop (mkF m 241 #[.val (.int i0), .val (.int i1), .val (.int i2), .val (.int i3), .val (.int i4), .val (.int (4 : Int32)), .val (.int pp), .val (.int z0), .val (.int z1), .val (.int z2), .val (.int z3), .val (.ref o122), .val (.int (0 : Int32)), .unset] [(.int (4 : Int32))])) (fun t k => XS.iload X144.here hx rfl (hb hby at_239) rfl k) ?_
                refine own_via (T144.setTop (mkF m 242 #[.val (.int i0), .val (.int i1), .val (.int i2), .val (.int i3), .val (.int i4), .val (.int (4 : Int32)), .val (.int pp), .val (.int z0), .val (.int z1), .val (.int z2), .val (.int z3), .val (.ref o122), .val (.int (0 : Int32)), .unset] [(.int (2 : Int32)), (.int (4 : Int32))])) (fun t k => XS.iconst X144.here hx rfl (hb hby at_241) k) ?_
                refine own_via (T144.setTop (mkF m 245 #[.val (.int i0), .val (.int i1), .val (.int i2), .val (.int i3), .val (.int i4), .val (.int (4 : Int32)), .val (.int pp), .val (.int z0), .val (.int z1), .val (.int z2), .val (.int z3), .val (.ref o122), .val (.int (0 : Int32)), .unset] [])) (fun t k => XS.icmpNo X144.here hx rfl (hb hby at_242) rfl (by decide) k) ?_
                refine own_via (T144.setTop (mkF m 247 #[.val (.int i0), .val (.int i1), .val (.int i2), .val (.int i3), .val (.int i4), .val (.int (4 : Int32)), .val (.int pp), .val (.int z0), .val (.int z1), .val (.int z2), .val (.int z3), .val (.ref o122), .val (.int (0 : Int32)), .unset] [(.int z2)])) (fun t k => XS.iload X144.here hx rfl (hb hby at_245) rfl k) ?_
                refine own_via (T144.setTop (mkF m 249 #[.val (.int i0), .val (.int i1), .val (.int i2), .val (.int i3), .val (.int i4), .val (.int (4 : Int32)), .val (.int pp), .val (.int z0), .val (.int z1), .val (.int z2), .val (.int z3), .val (.ref o122), .val (.int (0 : Int32)), .unset] [(.int (58 : Int32)), (.int z2)])) (fun t k => XS.bipush X144.here hx rfl (hb hby at_247) k) ?_
                by_cases q2 : z2 = (58 : Int32)
                · refine own_via (T144.setTop (mkF m 252 #[.val (.int i0), .val (.int i1), .val (.int i2), .val (.int i3), .val (.int i4), .val (.int (4 : Int32)), .val (.int pp), .val (.int z0), .val (.int z1), .val (.int z2), .val (.int z3), .val (.ref o122), .val (.int (0 : Int32)), .unset] [])) (fun t k => XS.icmpNo X144.here hx rfl (hb hby at_249) rfl (XT.ii_ne_f q2) k) ?_
                  refine own_via (T144.setTop (mkF m 253 #[.val (.int i0), .val (.int i1), .val (.int i2), .val (.int i3), .val (.int i4), .val (.int (4 : Int32)), .val (.int pp), .val (.int z0), .val (.int z1), .val (.int z2), .val (.int z3), .val (.ref o122), .val (.int (0 : Int32)), .unset] [(.int (2 : Int32))])) (fun t k => XS.iconst X144.here hx rfl (hb hby at_252) k) ?_
                  refine own_via (T144.setTop (mkF m 255 #[.val (.int i0), .val (.int i1), .val (.int i2), .val (.int i3), .val (.int i4), .val (.int (4 : Int32)), .val (.int pp), .val (.int z0), .val (.int z1), .val (.int z2), .val (.int z3), .val (.ref o122), .val (.int (2 : Int32)), .unset] [])) (fun t k => XS.istore X144.here hx rfl (hb hby at_253) rfl (l' := #[.val (.int i0), .val (.int i1), .val (.int i2), .val (.int i3), .val (.int i4), .val (.int (4 : Int32)), .val (.int pp), .val (.int z0), .val (.int z1), .val (.int z2), .val (.int z3), .val (.ref o122), .val (.int (2 : Int32)), .unset]) rfl k) ?_
                  refine own_via (T144.setTop (mkF m 257 #[.val (.int i0), .val (.int i1), .val (.int i2), .val (.int i3), .val (.int i4), .val (.int (4 : Int32)), .val (.int pp), .val (.int z0), .val (.int z1), .val (.int z2), .val (.int z3), .val (.ref o122), .val (.int (2 : Int32)), .unset] [(.int (4 : Int32))])) (fun t k => XS.iload X144.here hx rfl (hb hby at_255) rfl k) ?_
                  refine own_via (T144.setTop (mkF m 258 #[.val (.int i0), .val (.int i1), .val (.int i2), .val (.int i3), .val (.int i4), .val (.int (4 : Int32)), .val (.int pp), .val (.int z0), .val (.int z1), .val (.int z2), .val (.int z3), .val (.ref o122), .val (.int (2 : Int32)), .unset] [(.int (3 : Int32)), (.int (4 : Int32))])) (fun t k => XS.iconst X144.here hx rfl (hb hby at_257) k) ?_
                  refine own_via (T144.setTop (mkF m 261 #[.val (.int i0), .val (.int i1), .val (.int i2), .val (.int i3), .val (.int i4), .val (.int (4 : Int32)), .val (.int pp), .val (.int z0), .val (.int z1), .val (.int z2), .val (.int z3), .val (.ref o122), .val (.int (2 : Int32)), .unset] [])) (fun t k => XS.icmpNo X144.here hx rfl (hb hby at_258) rfl (by decide) k) ?_
                  refine own_via (T144.setTop (mkF m 263 #[.val (.int i0), .val (.int i1), .val (.int i2), .val (.int i3), .val (.int i4), .val (.int (4 : Int32)), .val (.int pp), .val (.int z0), .val (.int z1), .val (.int z2), .val (.int z3), .val (.ref o122), .val (.int (2 : Int32)), .unset] [(.int z3)])) (fun t k => XS.iload X144.here hx rfl (hb hby at_261) rfl k) ?_
                  refine own_via (T144.setTop (mkF m 265 #[.val (.int i0), .val (.int i1), .val (.int i2), .val (.int i3), .val (.int i4), .val (.int (4 : Int32)), .val (.int pp), .val (.int z0), .val (.int z1), .val (.int z2), .val (.int z3), .val (.ref o122), .val (.int (2 : Int32)), .unset] [(.int (58 : Int32)), (.int z3)])) (fun t k => XS.bipush X144.here hx rfl (hb hby at_263) k) ?_
                  by_cases q3 : z3 = (58 : Int32)
                  · refine own_via (T144.setTop (mkF m 268 #[.val (.int i0), .val (.int i1), .val (.int i2), .val (.int i3), .val (.int i4), .val (.int (4 : Int32)), .val (.int pp), .val (.int z0), .val (.int z1), .val (.int z2), .val (.int z3), .val (.ref o122), .val (.int (2 : Int32)), .unset] [])) (fun t k => XS.icmpNo X144.here hx rfl (hb hby at_265) rfl (XT.ii_ne_f q3) k) ?_
                    refine own_via (T144.setTop (mkF m 269 #[.val (.int i0), .val (.int i1), .val (.int i2), .val (.int i3), .val (.int i4), .val (.int (4 : Int32)), .val (.int pp), .val (.int z0), .val (.int z1), .val (.int z2), .val (.int z3), .val (.ref o122), .val (.int (2 : Int32)), .unset] [(.int (3 : Int32))])) (fun t k => XS.iconst X144.here hx rfl (hb hby at_268) k) ?_
                    refine own_via (T144.setTop (mkF m 271 #[.val (.int i0), .val (.int i1), .val (.int i2), .val (.int i3), .val (.int i4), .val (.int (4 : Int32)), .val (.int pp), .val (.int z0), .val (.int z1), .val (.int z2), .val (.int z3), .val (.ref o122), .val (.int (3 : Int32)), .unset] [])) (fun t k => XS.istore X144.here hx rfl (hb hby at_269) rfl (l' := #[.val (.int i0), .val (.int i1), .val (.int i2), .val (.int i3), .val (.int i4), .val (.int (4 : Int32)), .val (.int pp), .val (.int z0), .val (.int z1), .val (.int z2), .val (.int z3), .val (.ref o122), .val (.int (3 : Int32)), .unset]) rfl k) ?_
                    exact J3 q3
                  · refine own_via (T144.setTop (mkF m 271 #[.val (.int i0), .val (.int i1), .val (.int i2), .val (.int i3), .val (.int i4), .val (.int (4 : Int32)), .val (.int pp), .val (.int z0), .val (.int z1), .val (.int z2), .val (.int z3), .val (.ref o122), .val (.int (2 : Int32)), .unset] [])) (fun t k => XS.icmpYes X144.here hx rfl (pc0 := 265) (pc' := 271) rfl (hb hby at_265) rfl (XT.ii_ne_t q3) (by decide) (by decide) k) ?_
                    exact J2 q2 q3
                · refine own_via (T144.setTop (mkF m 255 #[.val (.int i0), .val (.int i1), .val (.int i2), .val (.int i3), .val (.int i4), .val (.int (4 : Int32)), .val (.int pp), .val (.int z0), .val (.int z1), .val (.int z2), .val (.int z3), .val (.ref o122), .val (.int (0 : Int32)), .unset] [])) (fun t k => XS.icmpYes X144.here hx rfl (pc0 := 249) (pc' := 255) rfl (hb hby at_249) rfl (XT.ii_ne_t q2) (by decide) (by decide) k) ?_
                  refine own_via (T144.setTop (mkF m 257 #[.val (.int i0), .val (.int i1), .val (.int i2), .val (.int i3), .val (.int i4), .val (.int (4 : Int32)), .val (.int pp), .val (.int z0), .val (.int z1), .val (.int z2), .val (.int z3), .val (.ref o122), .val (.int (0 : Int32)), .unset] [(.int (4 : Int32))])) (fun t k => XS.iload X144.here hx rfl (hb hby at_255) rfl k) ?_
                  refine own_via (T144.setTop (mkF m 258 #[.val (.int i0), .val (.int i1), .val (.int i2), .val (.int i3), .val (.int i4), .val (.int (4 : Int32)), .val (.int pp), .val (.int z0), .val (.int z1), .val (.int z2), .val (.int z3), .val (.ref o122), .val (.int (0 : Int32)), .unset] [(.int (3 : Int32)), (.int (4 : Int32))])) (fun t k => XS.iconst X144.here hx rfl (hb hby at_257) k) ?_
                  refine own_via (T144.setTop (mkF m 261 #[.val (.int i0), .val (.int i1), .val (.int i2), .val (.int i3), .val (.int i4), .val (.int (4 : Int32)), .val (.int pp), .val (.int z0), .val (.int z1), .val (.int z2), .val (.int z3), .val (.ref o122), .val (.int (0 : Int32)), .unset] [])) (fun t k => XS.icmpNo X144.here hx rfl (hb hby at_258) rfl (by decide) k) ?_
                  refine own_via (T144.setTop (mkF m 263 #[.val (.int i0), .val (.int i1), .val (.int i2), .val (.int i3), .val (.int i4), .val (.int (4 : Int32)), .val (.int pp), .val (.int z0), .val (.int z1), .val (.int z2), .val (.int z3), .val (.ref o122), .val (.int (0 : Int32)), .unset] [(.int z3)])) (fun t k => XS.iload X144.here hx rfl (hb hby at_261) rfl k) ?_
                  refine own_via (T144.setTop (mkF m 265 #[.val (.int i0), .val (.int i1), .val (.int i2), .val (.int i3), .val (.int i4), .val (.int (4 : Int32)), .val (.int pp), .val (.int z0), .val (.int z1), .val (.int z2), .val (.int z3), .val (.ref o122), .val (.int (0 : Int32)), .unset] [(.int (58 : Int32)), (.int z3)])) (fun t k => XS.bipush X144.here hx rfl (hb hby at_263) k) ?_
                  by_cases q3 : z3 = (58 : Int32)
                  · refine own_via (T144.setTop (mkF m 268 #[.val (.int i0), .val (.int i1), .val (.int i2), .val (.int i3), .val (.int i4), .val (.int (4 : Int32)), .val (.int pp), .val (.int z0), .val (.int z1), .val (.int z2), .val (.int z3), .val (.ref o122), .val (.int (0 : Int32)), .unset] [])) (fun t k => XS.icmpNo X144.here hx rfl (hb hby at_265) rfl (XT.ii_ne_f q3) k) ?_
                    refine own_via (T144.setTop (mkF m 269 #[.val (.int i0), .val (.int i1), .val (.int i2), .val (.int i3), .val (.int i4), .val (.int (4 : Int32)), .val (.int pp), .val (.int z0), .val (.int z1), .val (.int z2), .val (.int z3), .val (.ref o122), .val (.int (0 : Int32)), .unset] [(.int (3 : Int32))])) (fun t k => XS.iconst X144.here hx rfl (hb hby at_268) k) ?_
                    refine own_via (T144.setTop (mkF m 271 #[.val (.int i0), .val (.int i1), .val (.int i2), .val (.int i3), .val (.int i4), .val (.int (4 : Int32)), .val (.int pp), .val (.int z0), .val (.int z1), .val (.int z2), .val (.int z3), .val (.ref o122), .val (.int (3 : Int32)), .unset] [])) (fun t k => XS.istore X144.here hx rfl (hb hby at_269) rfl (l' := #[.val (.int i0), .val (.int i1), .val (.int i2), .val (.int i3), .val (.int i4), .val (.int (4 : Int32)), .val (.int pp), .val (.int z0), .val (.int z1), .val (.int z2), .val (.int z3), .val (.ref o122), .val (.int (3 : Int32)), .unset]) rfl k) ?_
                    exact J3 q3
                  · refine own_via (T144.setTop (mkF m 271 #[.val (.int i0), .val (.int i1), .val (.int i2), .val (.int i3), .val (.int i4), .val (.int (4 : Int32)), .val (.int pp), .val (.int z0), .val (.int z1), .val (.int z2), .val (.int z3), .val (.ref o122), .val (.int (0 : Int32)), .unset] [])) (fun t k => XS.icmpYes X144.here hx rfl (pc0 := 265) (pc' := 271) rfl (hb hby at_265) rfl (XT.ii_ne_t q3) (by decide) (by decide) k) ?_
                    exact J0 q0 q1 q2 q3
            · refine own_via (T144.setTop (mkF m 223 #[.val (.int i0), .val (.int i1), .val (.int i2), .val (.int i3), .val (.int i4), .val (.int (4 : Int32)), .val (.int pp), .val (.int z0), .val (.int z1), .val (.int z2), .val (.int z3), .val (.ref o122), .val (.int (-1 : Int32)), .unset] [])) (fun t k => XS.icmpYes X144.here hx rfl (pc0 := 217) (pc' := 223) rfl (hb hby at_217) rfl (XT.ii_ne_t q0) (by decide) (by decide) k) ?_
              refine own_via (T144.setTop (mkF m 225 #[.val (.int i0), .val (.int i1), .val (.int i2), .val (.int i3), .val (.int i4), .val (.int (4 : Int32)), .val (.int pp), .val (.int z0), .val (.int z1), .val (.int z2), .val (.int z3), .val (.ref o122), .val (.int (-1 : Int32)), .unset] [(.int (4 : Int32))])) (fun t k => XS.iload X144.here hx rfl (hb hby at_223) rfl k) ?_
              refine own_via (T144.setTop (mkF m 226 #[.val (.int i0), .val (.int i1), .val (.int i2), .val (.int i3), .val (.int i4), .val (.int (4 : Int32)), .val (.int pp), .val (.int z0), .val (.int z1), .val (.int z2), .val (.int z3), .val (.ref o122), .val (.int (-1 : Int32)), .unset] [(.int (1 : Int32)), (.int (4 : Int32))])) (fun t k => XS.iconst X144.here hx rfl (hb hby at_225) k) ?_
              refine own_via (T144.setTop (mkF m 229 #[.val (.int i0), .val (.int i1), .val (.int i2), .val (.int i3), .val (.int i4), .val (.int (4 : Int32)), .val (.int pp), .val (.int z0), .val (.int z1), .val (.int z2), .val (.int z3), .val (.ref o122), .val (.int (-1 : Int32)), .unset] [])) (fun t k => XS.icmpNo X144.here hx rfl (hb hby at_226) rfl (by decide) k) ?_
              refine own_via (T144.setTop (mkF m 231 #[.val (.int i0), .val (.int i1), .val (.int i2), .val (.int i3), .val (.int i4), .val (.int (4 : Int32)), .val (.int pp), .val (.int z0), .val (.int z1), .val (.int z2), .val (.int z3), .val (.ref o122), .val (.int (-1 : Int32)), .unset] [(.int z1)])) (fun t k => XS.iload X144.here hx rfl (hb hby at_229) rfl k) ?_
              refine own_via (T144.setTop (mkF m 233 #[.val (.int i0), .val (.int i1), .val (.int i2), .val (.int i3), .val (.int i4), .val (.int (4 : Int32)), .val (.int pp), .val (.int z0), .val (.int z1), .val (.int z2), .val (.int z3), .val (.ref o122), .val (.int (-1 : Int32)), .unset] [(.int (58 : Int32)), (.int z1)])) (fun t k => XS.bipush X144.here hx rfl (hb hby at_231) k) ?_
              by_cases q1 : z1 = (58 : Int32)
              · refine own_via (T144.setTop (mkF m 236 #[.val (.int i0), .val (.int i1), .val (.int i2), .val (.int i3), .val (.int i4), .val (.int (4 : Int32)), .val (.int pp), .val (.int z0), .val (.int z1), .val (.int z2), .val (.int z3), .val (.ref o122), .val (.int (-1 : Int32)), .unset] [])) (fun t k => XS.icmpNo X144.here hx rfl (hb hby at_233) rfl (XT.ii_ne_f q1) k) ?_
                refine own_via (T144.setTop (mkF m 237 #[.val (.int i0), .val (.int i1), .val (.int i2), .val (.int i3), .val (.int i4), .val (.int (4 : Int32)), .val (.int pp), .val (.int z0), .val (.int z1), .val (.int z2), .val (.int z3), .val (.ref o122), .val (.int (-1 : Int32)), .unset] [(.int (1 : Int32))])) (fun t k => XS.iconst X144.here hx rfl (hb hby at_236) k) ?_
                refine own_via (T144.setTop (mkF m 239 #[.val (.int i0), .val (.int i1), .val (.int i2), .val (.int i3), .val (.int i4), .val (.int (4 : Int32)), .val (.int pp), .val (.int z0), .val (.int z1), .val (.int z2), .val (.int z3), .val (.ref o122), .val (.int (1 : Int32)), .unset] [])) (fun t k => XS.istore X144.here hx rfl (hb hby at_237) rfl (l' := #[.val (.int i0), .val (.int i1), .val (.int i2), .val (.int i3), .val (.int i4), .val (.int (4 : Int32)), .val (.int pp), .val (.int z0), .val (.int z1), .val (.int z2), .val (.int z3), .val (.ref o122), .val (.int (1 : Int32)), .unset]) rfl k) ?_
                refine own_via (T144.setTop (mkF m 241 #[.val (.int i0), .val (.int i1), .val (.int i2), .val (.int i3), .val (.int i4), .val (.int (4 : Int32)), .val (.int pp), .val (.int z0), .val (.int z1), .val (.int z2), .val (.int z3), .val (.ref o122), .val (.int (1 : Int32)), .unset] [(.int (4 : Int32))])) (fun t k => XS.iload X144.here hx rfl (hb hby at_239) rfl k) ?_
                refine own_via (T144.setTop (mkF m 242 #[.val (.int i0), .val (.int i1), .val (.int i2), .val (.int i3), .val (.int i4), .val (.int (4 : Int32)), .val (.int pp), .val (.int z0), .val (.int z1), .val (.int z2), .val (.int z3), .val (.ref o122), .val (.int (1 : Int32)), .unset] [(.int (2 : Int32)), (.int (4 : Int32))])) (fun t k => XS.iconst X144.here hx rfl (hb hby at_241) k) ?_
                refine own_via (T144.setTop (mkF m 245 #[.val (.int i0), .val (.int i1), .val (.int i2), .val (.int i3), .val (.int i4), .val (.int (4 : Int32)), .val (.int pp), .val (.int z0), .val (.int z1), .val (.int z2), .val (.int z3), .val (.ref o122), .val (.int (1 : Int32)), .unset] [])) (fun t k => XS.icmpNo X144.here hx rfl (hb hby at_242) rfl (by decide) k) ?_
                refine own_via (T144.setTop (mkF m 247 #[.val (.int i0), .val (.int i1), .val (.int i2), .val (.int i3), .val (.int i4), .val (.int (4 : Int32)), .val (.int pp), .val (.int z0), .val (.int z1), .val (.int z2), .val (.int z3), .val (.ref o122), .val (.int (1 : Int32)), .unset] [(.int z2)])) (fun t k => XS.iload X144.here hx rfl (hb hby at_245) rfl k) ?_
                refine own_via (T144.setTop (mkF m 249 #[.val (.int i0), .val (.int i1), .val (.int i2), .val (.int i3), .val (.int i4), .val (.int (4 : Int32)), .val (.int pp), .val (.int z0), .val (.int z1), .val (.int z2), .val (.int z3), .val (.ref o122), .val (.int (1 : Int32)), .unset] [(.int (58 : Int32)), (.int z2)])) (fun t k => XS.bipush X144.here hx rfl (hb hby at_247) k) ?_
                by_cases q2 : z2 = (58 : Int32)
                · refine own_via (T144.setTop (mkF m 252 #[.val (.int i0), .val (.int i1), .val (.int i2), .val (.int i3), .val (.int i4), .val (.int (4 : Int32)), .val (.int pp), .val (.int z0), .val (.int z1), .val (.int z2), .val (.int z3), .val (.ref o122), .val (.int (1 : Int32)), .unset] [])) (fun t k => XS.icmpNo X144.here hx rfl (hb hby at_249) rfl (XT.ii_ne_f q2) k) ?_
                  refine own_via (T144.setTop (mkF m 253 #[.val (.int i0), .val (.int i1), .val (.int i2), .val (.int i3), .val (.int i4), .val (.int (4 : Int32)), .val (.int pp), .val (.int z0), .val (.int z1), .val (.int z2), .val (.int z3), .val (.ref o122), .val (.int (1 : Int32)), .unset] [(.int (2 : Int32))])) (fun t k => XS.iconst X144.here hx rfl (hb hby at_252) k) ?_
                  refine own_via (T144.setTop (mkF m 255 #[.val (.int i0), .val (.int i1), .val (.int i2), .val (.int i3), .val (.int i4), .val (.int (4 : Int32)), .val (.int pp), .val (.int z0), .val (.int z1), .val (.int z2), .val (.int z3), .val (.ref o122), .val (.int (2 : Int32)), .unset] [])) (fun t k => XS.istore X144.here hx rfl (hb hby at_253) rfl (l' := #[.val (.int i0), .val (.int i1), .val (.int i2), .val (.int i3), .val (.int i4), .val (.int (4 : Int32)), .val (.int pp), .val (.int z0), .val (.int z1), .val (.int z2), .val (.int z3), .val (.ref o122), .val (.int (2 : Int32)), .unset]) rfl k) ?_
                  refine own_via (T144.setTop (mkF m 257 #[.val (.int i0), .val (.int i1), .val (.int i2), .val (.int i3), .val (.int i4), .val (.int (4 : Int32)), .val (.int pp), .val (.int z0), .val (.int z1), .val (.int z2), .val (.int z3), .val (.ref o122), .val (.int (2 : Int32)), .unset] [(.int (4 : Int32))])) (fun t k => XS.iload X144.here hx rfl (hb hby at_255) rfl k) ?_
                  refine own_via (T144.setTop (mkF m 258 #[.val (.int i0), .val (.int i1), .val (.int i2), .val (.int i3), .val (.int i4), .val (.int (4 : Int32)), .val (.int pp), .val (.int z0), .val (.int z1), .val (.int z2), .val (.int z3), .val (.ref o122), .val (.int (2 : Int32)), .unset] [(.int (3 : Int32)), (.int (4 : Int32))])) (fun t k => XS.iconst X144.here hx rfl (hb hby at_257) k) ?_
                  refine own_via (T144.setTop (mkF m 261 #[.val (.int i0), .val (.int i1), .val (.int i2), .val (.int i3), .val (.int i4), .val (.int (4 : Int32)), .val (.int pp), .val (.int z0), .val (.int z1), .val (.int z2), .val (.int z3), .val (.ref o122), .val (.int (2 : Int32)), .unset] [])) (fun t k => XS.icmpNo X144.here hx rfl (hb hby at_258) rfl (by decide) k) ?_
                  refine own_via (T144.setTop (mkF m 263 #[.val (.int i0), .val (.int i1), .val (.int i2), .val (.int i3), .val (.int i4), .val (.int (4 : Int32)), .val (.int pp), .val (.int z0), .val (.int z1), .val (.int z2), .val (.int z3), .val (.ref o122), .val (.int (2 : Int32)), .unset] [(.int z3)])) (fun t k => XS.iload X144.here hx rfl (hb hby at_261) rfl k) ?_
                  refine own_via (T144.setTop (mkF m 265 #[.val (.int i0), .val (.int i1), .val (.int i2), .val (.int i3), .val (.int i4), .val (.int (4 : Int32)), .val (.int pp), .val (.int z0), .val (.int z1), .val (.int z2), .val (.int z3), .val (.ref o122), .val (.int (2 : Int32)), .unset] [(.int (58 : Int32)), (.int z3)])) (fun t k => XS.bipush X144.here hx rfl (hb hby at_263) k) ?_
                  by_cases q3 : z3 = (58 : Int32)
                  · refine own_via (T144.setTop (mkF m 268 #[.val (.int i0), .val (.int i1), .val (.int i2), .val (.int i3), .val (.int i4), .val (.int (4 : Int32)), .val (.int pp), .val (.int z0), .val (.int z1), .val (.int z2), .val (.int z3), .val (.ref o122), .val (.int (2 : Int32)), .unset] [])) (fun t k => XS.icmpNo X144.here hx rfl (hb hby at_265) rfl (XT.ii_ne_f q3) k) ?_
                    refine own_via (T144.setTop (mkF m 269 #[.val (.int i0), .val (.int i1), .val (.int i2), .val (.int i3), .val (.int i4), .val (.int (4 : Int32)), .val (.int pp), .val (.int z0), .val (.int z1), .val (.int z2), .val (.int z3), .val (.ref o122), .val (.int (2 : Int32)), .unset] [(.int (3 : Int32))])) (fun t k => XS.iconst X144.here hx rfl (hb hby at_268) k) ?_
                    refine own_via (T144.setTop (mkF m 271 #[.val (.int i0), .val (.int i1), .val (.int i2), .val (.int i3), .val (.int i4), .val (.int (4 : Int32)), .val (.int pp), .val (.int z0), .val (.int z1), .val (.int z2), .val (.int z3), .val (.ref o122), .val (.int (3 : Int32)), .unset] [])) (fun t k => XS.istore X144.here hx rfl (hb hby at_269) rfl (l' := #[.val (.int i0), .val (.int i1), .val (.int i2), .val (.int i3), .val (.int i4), .val (.int (4 : Int32)), .val (.int pp), .val (.int z0), .val (.int z1), .val (.int z2), .val (.int z3), .val (.ref o122), .val (.int (3 : Int32)), .unset]) rfl k) ?_
                    exact J3 q3
                  · refine own_via (T144.setTop (mkF m 271 #[.val (.int i0), .val (.int i1), .val (.int i2), .val (.int i3), .val (.int i4), .val (.int (4 : Int32)), .val (.int pp), .val (.int z0), .val (.int z1), .val (.int z2), .val (.int z3), .val (.ref o122), .val (.int (2 : Int32)), .unset] [])) (fun t k => XS.icmpYes X144.here hx rfl (pc0 := 265) (pc' := 271) rfl (hb hby at_265) rfl (XT.ii_ne_t q3) (by decide) (by decide) k) ?_
                    exact J2 q2 q3
                · refine own_via (T144.setTop (mkF m 255 #[.val (.int i0), .val (.int i1), .val (.int i2), .val (.int i3), .val (.int i4), .val (.int (4 : Int32)), .val (.int pp), .val (.int z0), .val (.int z1), .val (.int z2), .val (.int z3), .val (.ref o122), .val (.int (1 : Int32)), .unset] [])) (fun t k => XS.icmpYes X144.here hx rfl (pc0 := 249) (pc' := 255) rfl (hb hby at_249) rfl (XT.ii_ne_t q2) (by decide) (by decide) k) ?_
                  refine own_via (T144.setTop (mkF m 257 #[.val (.int i0), .val (.int i1), .val (.int i2), .val (.int i3), .val (.int i4), .val (.int (4 : Int32)), .val (.int pp), .val (.int z0), .val (.int z1), .val (.int z2), .val (.int z3), .val (.ref o122), .val (.int (1 : Int32)), .unset] [(.int (4 : Int32))])) (fun t k => XS.iload X144.here hx rfl (hb hby at_255) rfl k) ?_
                  refine own_via (T144.setTop (mkF m 258 #[.val (.int i0), .val (.int i1), .val (.int i2), .val (.int i3), .val (.int i4), .val (.int (4 : Int32)), .val (.int pp), .val (.int z0), .val (.int z1), .val (.int z2), .val (.int z3), .val (.ref o122), .val (.int (1 : Int32)), .unset] [(.int (3 : Int32)), (.int (4 : Int32))])) (fun t k => XS.iconst X144.here hx rfl (hb hby at_257) k) ?_
                  refine own_via (T144.setTop (mkF m 261 #[.val (.int i0), .val (.int i1), .val (.int i2), .val (.int i3), .val (.int i4), .val (.int (4 : Int32)), .val (.int pp), .val (.int z0), .val (.int z1), .val (.int z2), .val (.int z3), .val (.ref o122), .val (.int (1 : Int32)), .unset] [])) (fun t k => XS.icmpNo X144.here hx rfl (hb hby at_258) rfl (by decide) k) ?_
                  refine own_via (T144.setTop (mkF m 263 #[.val (.int i0), .val (.int i1), .val (.int i2), .val (.int i3), .val (.int i4), .val (.int (4 : Int32)), .val (.int pp), .val (.int z0), .val (.int z1), .val (.int z2), .val (.int z3), .val (.ref o122), .val (.int (1 : Int32)), .unset] [(.int z3)])) (fun t k => XS.iload X144.here hx rfl (hb hby at_261) rfl k) ?_
                  refine own_via (T144.setTop (mkF m 265 #[.val (.int i0), .val (.int i1), .val (.int i2), .val (.int i3), .val (.int i4), .val (.int (4 : Int32)), .val (.int pp), .val (.int z0), .val (.int z1), .val (.int z2), .val (.int z3), .val (.ref o122), .val (.int (1 : Int32)), .unset] [(.int (58 : Int32)), (.int z3)])) (fun t k => XS.bipush X144.here hx rfl (hb hby at_263) k) ?_
                  by_cases q3 : z3 = (58 : Int32)
                  · refine own_via (T144.setTop (mkF m 268 #[.val (.int i0), .val (.int i1), .val (.int i2), .val (.int i3), .val (.int i4), .val (.int (4 : Int32)), .val (.int pp), .val (.int z0), .val (.int z1), .val (.int z2), .val (.int z3), .val (.ref o122), .val (.int (1 : Int32)), .unset] [])) (fun t k => XS.icmpNo X144.here hx rfl (hb hby at_265) rfl (XT.ii_ne_f q3) k) ?_
                    refine own_via (T144.setTop (mkF m 269 #[.val (.int i0), .val (.int i1), .val (.int i2), .val (.int i3), .val (.int i4), .val (.int (4 : Int32)), .val (.int pp), .val (.int z0), .val (.int z1), .val (.int z2), .val (.int z3), .val (.ref o122), .val (.int (1 : Int32)), .unset] [(.int (3 : Int32))])) (fun t k => XS.iconst X144.here hx rfl (hb hby at_268) k) ?_
                    refine own_via (T144.setTop (mkF m 271 #[.val (.int i0), .val (.int i1), .val (.int i2), .val (.int i3), .val (.int i4), .val (.int (4 : Int32)), .val (.int pp), .val (.int z0), .val (.int z1), .val (.int z2), .val (.int z3), .val (.ref o122), .val (.int (3 : Int32)), .unset] [])) (fun t k => XS.istore X144.here hx rfl (hb hby at_269) rfl (l' := #[.val (.int i0), .val (.int i1), .val (.int i2), .val (.int i3), .val (.int i4), .val (.int (4 : Int32)), .val (.int pp), .val (.int z0), .val (.int z1), .val (.int z2), .val (.int z3), .val (.ref o122), .val (.int (3 : Int32)), .unset]) rfl k) ?_
                    exact J3 q3
                  · refine own_via (T144.setTop (mkF m 271 #[.val (.int i0), .val (.int i1), .val (.int i2), .val (.int i3), .val (.int i4), .val (.int (4 : Int32)), .val (.int pp), .val (.int z0), .val (.int z1), .val (.int z2), .val (.int z3), .val (.ref o122), .val (.int (1 : Int32)), .unset] [])) (fun t k => XS.icmpYes X144.here hx rfl (pc0 := 265) (pc' := 271) rfl (hb hby at_265) rfl (XT.ii_ne_t q3) (by decide) (by decide) k) ?_
                    exact J1 q1 q2 q3
              · refine own_via (T144.setTop (mkF m 239 #[.val (.int i0), .val (.int i1), .val (.int i2), .val (.int i3), .val (.int i4), .val (.int (4 : Int32)), .val (.int pp), .val (.int z0), .val (.int z1), .val (.int z2), .val (.int z3), .val (.ref o122), .val (.int (-1 : Int32)), .unset] [])) (fun t k => XS.icmpYes X144.here hx rfl (pc0 := 233) (pc' := 239) rfl (hb hby at_233) rfl (XT.ii_ne_t q1) (by decide) (by decide) k) ?_
                refine own_via (T144.setTop (mkF m 241 #[.val (.int i0), .val (.int i1), .val (.int i2), .val (.int i3), .val (.int i4), .val (.int (4 : Int32)), .val (.int pp), .val (.int z0), .val (.int z1), .val (.int z2), .val (.int z3), .val (.ref o122), .val (.int (-1 : Int32)), .unset] [(.int (4 : Int32))])) (fun t k => XS.iload X144.here hx rfl (hb hby at_239) rfl k) ?_
                refine own_via (T144.setTop (mkF m 242 #[.val (.int i0), .val (.int i1), .val (.int i2), .val (.int i3), .val (.int i4), .val (.int (4 : Int32)), .val (.int pp), .val (.int z0), .val (.int z1), .val (.int z2), .val (.int z3), .val (.ref o122), .val (.int (-1 : Int32)), .unset] [(.int (2 : Int32)), (.int (4 : Int32))])) (fun t k => XS.iconst X144.here hx rfl (hb hby at_241) k) ?_
                refine own_via (T144.setTop (mkF m 245 #[.val (.int i0), .val (.int i1), .val (.int i2), .val (.int i3), .val (.int i4), .val (.int (4 : Int32)), .val (.int pp), .val (.int z0), .val (.int z1), .val (.int z2), .val (.int z3), .val (.ref o122), .val (.int (-1 : Int32)), .unset] [])) (fun t k => XS.icmpNo X144.here hx rfl (hb hby at_242) rfl (by decide) k) ?_
                refine own_via (T144.setTop (mkF m 247 #[.val (.int i0), .val (.int i1), .val (.int i2), .val (.int i3), .val (.int i4), .val (.int (4 : Int32)), .val (.int pp), .val (.int z0), .val (.int z1), .val (.int z2), .val (.int z3), .val (.ref o122), .val (.int (-1 : Int32)), .unset] [(.int z2)])) (fun t k => XS.iload X144.here hx rfl (hb hby at_245) rfl k) ?_
                refine own_via (T144.setTop (mkF m 249 #[.val (.int i0), .val (.int i1), .val (.int i2), .val (.int i3), .val (.int i4), .val (.int (4 : Int32)), .val (.int pp), .val (.int z0), .val (.int z1), .val (.int z2), .val (.int z3), .val (.ref o122), .val (.int (-1 : Int32)), .unset] [(.int (58 : Int32)), (.int z2)])) (fun t k => XS.bipush X144.here hx rfl (hb hby at_247) k) ?_
                by_cases q2 : z2 = (58 : Int32)
                · refine own_via (T144.setTop (mkF m 252 #[.val (.int i0), .val (.int i1), .val (.int i2), .val (.int i3), .val (.int i4), .val (.int (4 : Int32)), .val (.int pp), .val (.int z0), .val (.int z1), .val (.int z2), .val (.int z3), .val (.ref o122), .val (.int (-1 : Int32)), .unset] [])) (fun t k => XS.icmpNo X144.here hx rfl (hb hby at_249) rfl (XT.ii_ne_f q2) k) ?_
                  refine own_via (T144.setTop (mkF m 253 #[.val (.int i0), .val (.int i1), .val (.int i2), .val (.int i3), .val (.int i4), .val (.int (4 : Int32)), .val (.int pp), .val (.int z0), .val (.int z1), .val (.int z2), .val (.int z3), .val (.ref o122), .val (.int (-1 : Int32)), .unset] [(.int (2 : Int32))])) (fun t k => XS.iconst X144.here hx rfl (hb hby at_252) k) ?_
                  refine own_via (T144.setTop (mkF m 255 #[.val (.int i0), .val (.int i1), .val (.int i2), .val (.int i3), .val (.int i4), .val (.int (4 : Int32)), .val (.int pp), .val (.int z0), .val (.int z1), .val (.int z2), .val (.int z3), .val (.ref o122), .val (.int (2 : Int32)), .unset] [])) (fun t k => XS.istore X144.here hx rfl (hb hby at_253) rfl (l' := #[.val (.int i0), .val (.int i1), .val (.int i2), .val (.int i3), .val (.int i4), .val (.int (4 : Int32)), .val (.int pp), .val (.int z0), .val (.int z1), .val (.int z2), .val (.int z3), .val (.ref o122), .val (.int (2 : Int32)), .unset]) rfl k) ?_
                  refine own_via (T144.setTop (mkF m 257 #[.val (.int i0), .val (.int i1), .val (.int i2), .val (.int i3), .val (.int i4), .val (.int (4 : Int32)), .val (.int pp), .val (.int z0), .val (.int z1), .val (.int z2), .val (.int z3), .val (.ref o122), .val (.int (2 : Int32)), .unset] [(.int (4 : Int32))])) (fun t k => XS.iload X144.here hx rfl (hb hby at_255) rfl k) ?_
                  refine own_via (T144.setTop (mkF m 258 #[.val (.int i0), .val (.int i1), .val (.int i2), .val (.int i3), .val (.int i4), .val (.int (4 : Int32)), .val (.int pp), .val (.int z0), .val (.int z1), .val (.int z2), .val (.int z3), .val (.ref o122), .val (.int (2 : Int32)), .unset] [(.int (3 : Int32)), (.int (4 : Int32))])) (fun t k => XS.iconst X144.here hx rfl (hb hby at_257) k) ?_
                  refine own_via (T144.setTop (mkF m 261 #[.val (.int i0), .val (.int i1), .val (.int i2), .val (.int i3), .val (.int i4), .val (.int (4 : Int32)), .val (.int pp), .val (.int z0), .val (.int z1), .val (.int z2), .val (.int z3), .val (.ref o122), .val (.int (2 : Int32)), .unset] [])) (fun t k => XS.icmpNo X144.here hx rfl (hb hby at_258) rfl (by decide) k) ?_
                  refine own_via (T144.setTop (mkF m 263 #[.val (.int i0), .val (.int i1), .val (.int i2), .val (.int i3), .val (.int i4), .val (.int (4 : Int32)), .val (.int pp), .val (.int z0), .val (.int z1), .val (.int z2), .val (.int z3), .val (.ref o122), .val (.int (2 : Int32)), .unset] [(.int z3)])) (fun t k => XS.iload X144.here hx rfl (hb hby at_261) rfl k) ?_
                  refine own_via (T144.setTop (mkF m 265 #[.val (.int i0), .val (.int i1), .val (.int i2), .val (.int i3), .val (.int i4), .val (.int (4 : Int32)), .val (.int pp), .val (.int z0), .val (.int z1), .val (.int z2), .val (.int z3), .val (.ref o122), .val (.int (2 : Int32)), .unset] [(.int (58 : Int32)), (.int z3)])) (fun t k => XS.bipush X144.here hx rfl (hb hby at_263) k) ?_
                  by_cases q3 : z3 = (58 : Int32)
                  · refine own_via (T144.setTop (mkF m 268 #[.val (.int i0), .val (.int i1), .val (.int i2), .val (.int i3), .val (.int i4), .val (.int (4 : Int32)), .val (.int pp), .val (.int z0), .val (.int z1), .val (.int z2), .val (.int z3), .val (.ref o122), .val (.int (2 : Int32)), .unset] [])) (fun t k => XS.icmpNo X144.here hx rfl (hb hby at_265) rfl (XT.ii_ne_f q3) k) ?_
                    refine own_via (T144.setTop (mkF m 269 #[.val (.int i0), .val (.int i1), .val (.int i2), .val (.int i3), .val (.int i4), .val (.int (4 : Int32)), .val (.int pp), .val (.int z0), .val (.int z1), .val (.int z2), .val (.int z3), .val (.ref o122), .val (.int (2 : Int32)), .unset] [(.int (3 : Int32))])) (fun t k => XS.iconst X144.here hx rfl (hb hby at_268) k) ?_
                    refine own_via (T144.setTop (mkF m 271 #[.val (.int i0), .val (.int i1), .val (.int i2), .val (.int i3), .val (.int i4), .val (.int (4 : Int32)), .val (.int pp), .val (.int z0), .val (.int z1), .val (.int z2), .val (.int z3), .val (.ref o122), .val (.int (3 : Int32)), .unset] [])) (fun t k => XS.istore X144.here hx rfl (hb hby at_269) rfl (l' := #[.val (.int i0), .val (.int i1), .val (.int i2), .val (.int i3), .val (.int i4), .val (.int (4 : Int32)), .val (.int pp), .val (.int z0), .val (.int z1), .val (.int z2), .val (.int z3), .val (.ref o122), .val (.int (3 : Int32)), .unset]) rfl k) ?_
                    exact J3 q3
                  · refine own_via (T144.setTop (mkF m 271 #[.val (.int i0), .val (.int i1), .val (.int i2), .val (.int i3), .val (.int i4), .val (.int (4 : Int32)), .val (.int pp), .val (.int z0), .val (.int z1), .val (.int z2), .val (.int z3), .val (.ref o122), .val (.int (2 : Int32)), .unset] [])) (fun t k => XS.icmpYes X144.here hx rfl (pc0 := 265) (pc' := 271) rfl (hb hby at_265) rfl (XT.ii_ne_t q3) (by decide) (by decide) k) ?_
                    exact J2 q2 q3
                · refine own_via (T144.setTop (mkF m 255 #[.val (.int i0), .val (.int i1), .val (.int i2), .val (.int i3), .val (.int i4), .val (.int (4 : Int32)), .val (.int pp), .val (.int z0), .val (.int z1), .val (.int z2), .val (.int z3), .val (.ref o122), .val (.int (-1 : Int32)), .unset] [])) (fun t k => XS.icmpYes X144.here hx rfl (pc0 := 249) (pc' := 255) rfl (hb hby at_249) rfl (XT.ii_ne_t q2) (by decide) (by decide) k) ?_
                  refine own_via (T144.setTop (mkF m 257 #[.val (.int i0), .val (.int i1), .val (.int i2), .val (.int i3), .val (.int i4), .val (.int (4 : Int32)), .val (.int pp), .val (.int z0), .val (.int z1), .val (.int z2), .val (.int z3), .val (.ref o122), .val (.int (-1 : Int32)), .unset] [(.int (4 : Int32))])) (fun t k => XS.iload X144.here hx rfl (hb hby at_255) rfl k) ?_
                  refine own_via (T144.setTop (mkF m 258 #[.val (.int i0), .val (.int i1), .val (.int i2), .val (.int i3), .val (.int i4), .val (.int (4 : Int32)), .val (.int pp), .val (.int z0), .val (.int z1), .val (.int z2), .val (.int z3), .val (.ref o122), .val (.int (-1 : Int32)), .unset] [(.int (3 : Int32)), (.int (4 : Int32))])) (fun t k => XS.iconst X144.here hx rfl (hb hby at_257) k) ?_
                  refine own_via (T144.setTop (mkF m 261 #[.val (.int i0), .val (.int i1), .val (.int i2), .val (.int i3), .val (.int i4), .val (.int (4 : Int32)), .val (.int pp), .val (.int z0), .val (.int z1), .val (.int z2), .val (.int z3), .val (.ref o122), .val (.int (-1 : Int32)), .unset] [])) (fun t k => XS.icmpNo X144.here hx rfl (hb hby at_258) rfl (by decide) k) ?_
                  refine own_via (T144.setTop (mkF m 263 #[.val (.int i0), .val (.int i1), .val (.int i2), .val (.int i3), .val (.int i4), .val (.int (4 : Int32)), .val (.int pp), .val (.int z0), .val (.int z1), .val (.int z2), .val (.int z3), .val (.ref o122), .val (.int (-1 : Int32)), .unset] [(.int z3)])) (fun t k => XS.iload X144.here hx rfl (hb hby at_261) rfl k) ?_
                  refine own_via (T144.setTop (mkF m 265 #[.val (.int i0), .val (.int i1), .val (.int i2), .val (.int i3), .val (.int i4), .val (.int (4 : Int32)), .val (.int pp), .val (.int z0), .val (.int z1), .val (.int z2), .val (.int z3), .val (.ref o122), .val (.int (-1 : Int32)), .unset] [(.int (58 : Int32)), (.int z3)])) (fun t k => XS.bipush X144.here hx rfl (hb hby at_263) k) ?_
                  by_cases q3 : z3 = (58 : Int32)
                  · refine own_via (T144.setTop (mkF m 268 #[.val (.int i0), .val (.int i1), .val (.int i2), .val (.int i3), .val (.int i4), .val (.int (4 : Int32)), .val (.int pp), .val (.int z0), .val (.int z1), .val (.int z2), .val (.int z3), .val (.ref o122), .val (.int (-1 : Int32)), .unset] [])) (fun t k => XS.icmpNo X144.here hx rfl (hb hby at_265) rfl (XT.ii_ne_f q3) k) ?_
                    refine own_via (T144.setTop (mkF m 269 #[.val (.int i0), .val (.int i1), .val (.int i2), .val (.int i3), .val (.int i4), .val (.int (4 : Int32)), .val (.int pp), .val (.int z0), .val (.int z1), .val (.int z2), .val (.int z3), .val (.ref o122), .val (.int (-1 : Int32)), .unset] [(.int (3 : Int32))])) (fun t k => XS.iconst X144.here hx rfl (hb hby at_268) k) ?_
                    refine own_via (T144.setTop (mkF m 271 #[.val (.int i0), .val (.int i1), .val (.int i2), .val (.int i3), .val (.int i4), .val (.int (4 : Int32)), .val (.int pp), .val (.int z0), .val (.int z1), .val (.int z2), .val (.int z3), .val (.ref o122), .val (.int (3 : Int32)), .unset] [])) (fun t k => XS.istore X144.here hx rfl (hb hby at_269) rfl (l' := #[.val (.int i0), .val (.int i1), .val (.int i2), .val (.int i3), .val (.int i4), .val (.int (4 : Int32)), .val (.int pp), .val (.int z0), .val (.int z1), .val (.int z2), .val (.int z3), .val (.ref o122), .val (.int (3 : Int32)), .unset]) rfl k) ?_
                    exact J3 q3
                  · refine own_via (T144.setTop (mkF m 271 #[.val (.int i0), .val (.int i1), .val (.int i2), .val (.int i3), .val (.int i4), .val (.int (4 : Int32)), .val (.int pp), .val (.int z0), .val (.int z1), .val (.int z2), .val (.int z3), .val (.ref o122), .val (.int (-1 : Int32)), .unset] [])) (fun t k => XS.icmpYes X144.here hx rfl (pc0 := 265) (pc' := 271) rfl (hb hby at_265) rfl (XT.ii_ne_t q3) (by decide) (by decide) k) ?_
                    exact absurd hcol (by simp [own_has, q0, q1, q2, q3])
          · exact absurd hcol (by simp [own_has, hn1, hn2, hn3, hn4])
  by_cases k0 : pp = 0
  · refine own_via (T4.setTop (mkF m 48 #[.val (.int i0), .val (.int i1), .val (.int i2), .val (.int i3), .val (.int i4), .val (.int nn), .val (.int pp), .val (.int yc_1), .val (.int yc_2), .val (.int yc_3), .val (.int yc_4), .unset, .unset, .unset] [])) (fun t k => XS.ifNo X4.here hx rfl (hb hby at_45) rfl (XT.i0_ne_f k0) k) ?_
    refine own_via (T4.setTop (mkF m 50 #[.val (.int i0), .val (.int i1), .val (.int i2), .val (.int i3), .val (.int i4), .val (.int nn), .val (.int pp), .val (.int yc_1), .val (.int yc_2), .val (.int yc_3), .val (.int yc_4), .unset, .unset, .unset] [(.int (58 : Int32))])) (fun t k => XS.bipush X4.here hx rfl (hb hby at_48) k) ?_
    refine own_via (T4.setTop (mkF m 52 #[.val (.int i0), .val (.int i1), .val (.int i2), .val (.int i3), .val (.int i4), .val (.int nn), .val (.int pp), .val (.int (58 : Int32)), .val (.int yc_2), .val (.int yc_3), .val (.int yc_4), .unset, .unset, .unset] [])) (fun t k => XS.istore X4.here hx rfl (hb hby at_50) rfl (l' := #[.val (.int i0), .val (.int i1), .val (.int i2), .val (.int i3), .val (.int i4), .val (.int nn), .val (.int pp), .val (.int (58 : Int32)), .val (.int yc_2), .val (.int yc_3), .val (.int yc_4), .unset, .unset, .unset]) rfl k) ?_
    refine own_via (T4.setTop (mkF m 85 #[.val (.int i0), .val (.int i1), .val (.int i2), .val (.int i3), .val (.int i4), .val (.int nn), .val (.int pp), .val (.int (58 : Int32)), .val (.int yc_2), .val (.int yc_3), .val (.int yc_4), .unset, .unset, .unset] [])) (fun t k => XS.goto X4.here hx rfl (pc0 := 52) (pc' := 85) rfl (hb hby at_52) (by decide) (by decide) k) ?_
    exact J85 _ _ _ _ (by decide) m2_0 m3_0 m4_0 (own_has0 hnp)
  · refine own_via (T4.setTop (mkF m 55 #[.val (.int i0), .val (.int i1), .val (.int i2), .val (.int i3), .val (.int i4), .val (.int nn), .val (.int pp), .val (.int yc_1), .val (.int yc_2), .val (.int yc_3), .val (.int yc_4), .unset, .unset, .unset] [])) (fun t k => XS.ifYes X4.here hx rfl (pc0 := 45) (pc' := 55) rfl (hb hby at_45) rfl (XT.i0_ne_t k0) (by decide) (by decide) k) ?_
    refine own_via (T4.setTop (mkF m 57 #[.val (.int i0), .val (.int i1), .val (.int i2), .val (.int i3), .val (.int i4), .val (.int nn), .val (.int pp), .val (.int yc_1), .val (.int yc_2), .val (.int yc_3), .val (.int yc_4), .unset, .unset, .unset] [(.int pp)])) (fun t k => XS.iload X4.here hx rfl (hb hby at_55) rfl k) ?_
    refine own_via (T4.setTop (mkF m 58 #[.val (.int i0), .val (.int i1), .val (.int i2), .val (.int i3), .val (.int i4), .val (.int nn), .val (.int pp), .val (.int yc_1), .val (.int yc_2), .val (.int yc_3), .val (.int yc_4), .unset, .unset, .unset] [(.int (1 : Int32)), (.int pp)])) (fun t k => XS.iconst X4.here hx rfl (hb hby at_57) k) ?_
    by_cases k1 : pp = (1 : Int32)
    · refine own_via (T4.setTop (mkF m 61 #[.val (.int i0), .val (.int i1), .val (.int i2), .val (.int i3), .val (.int i4), .val (.int nn), .val (.int pp), .val (.int yc_1), .val (.int yc_2), .val (.int yc_3), .val (.int yc_4), .unset, .unset, .unset] [])) (fun t k => XS.icmpNo X4.here hx rfl (hb hby at_58) rfl (XT.ii_ne_f k1) k) ?_
      refine own_via (T4.setTop (mkF m 63 #[.val (.int i0), .val (.int i1), .val (.int i2), .val (.int i3), .val (.int i4), .val (.int nn), .val (.int pp), .val (.int yc_1), .val (.int yc_2), .val (.int yc_3), .val (.int yc_4), .unset, .unset, .unset] [(.int (58 : Int32))])) (fun t k => XS.bipush X4.here hx rfl (hb hby at_61) k) ?_
      refine own_via (T4.setTop (mkF m 65 #[.val (.int i0), .val (.int i1), .val (.int i2), .val (.int i3), .val (.int i4), .val (.int nn), .val (.int pp), .val (.int yc_1), .val (.int (58 : Int32)), .val (.int yc_3), .val (.int yc_4), .unset, .unset, .unset] [])) (fun t k => XS.istore X4.here hx rfl (hb hby at_63) rfl (l' := #[.val (.int i0), .val (.int i1), .val (.int i2), .val (.int i3), .val (.int i4), .val (.int nn), .val (.int pp), .val (.int yc_1), .val (.int (58 : Int32)), .val (.int yc_3), .val (.int yc_4), .unset, .unset, .unset]) rfl k) ?_
      refine own_via (T4.setTop (mkF m 85 #[.val (.int i0), .val (.int i1), .val (.int i2), .val (.int i3), .val (.int i4), .val (.int nn), .val (.int pp), .val (.int yc_1), .val (.int (58 : Int32)), .val (.int yc_3), .val (.int yc_4), .unset, .unset, .unset] [])) (fun t k => XS.goto X4.here hx rfl (pc0 := 65) (pc' := 85) rfl (hb hby at_65) (by decide) (by decide) k) ?_
      exact J85 _ _ _ _ m1_0 (by decide) m3_0 m4_0 (own_has1 hnp k1)
    · refine own_via (T4.setTop (mkF m 68 #[.val (.int i0), .val (.int i1), .val (.int i2), .val (.int i3), .val (.int i4), .val (.int nn), .val (.int pp), .val (.int yc_1), .val (.int yc_2), .val (.int yc_3), .val (.int yc_4), .unset, .unset, .unset] [])) (fun t k => XS.icmpYes X4.here hx rfl (pc0 := 58) (pc' := 68) rfl (hb hby at_58) rfl (XT.ii_ne_t k1) (by decide) (by decide) k) ?_
      refine own_via (T4.setTop (mkF m 70 #[.val (.int i0), .val (.int i1), .val (.int i2), .val (.int i3), .val (.int i4), .val (.int nn), .val (.int pp), .val (.int yc_1), .val (.int yc_2), .val (.int yc_3), .val (.int yc_4), .unset, .unset, .unset] [(.int pp)])) (fun t k => XS.iload X4.here hx rfl (hb hby at_68) rfl k) ?_
      refine own_via (T4.setTop (mkF m 71 #[.val (.int i0), .val (.int i1), .val (.int i2), .val (.int i3), .val (.int i4), .val (.int nn), .val (.int pp), .val (.int yc_1), .val (.int yc_2), .val (.int yc_3), .val (.int yc_4), .unset, .unset, .unset] [(.int (2 : Int32)), (.int pp)])) (fun t k => XS.iconst X4.here hx rfl (hb hby at_70) k) ?_
      by_cases k2 : pp = (2 : Int32)
      · refine own_via (T4.setTop (mkF m 74 #[.val (.int i0), .val (.int i1), .val (.int i2), .val (.int i3), .val (.int i4), .val (.int nn), .val (.int pp), .val (.int yc_1), .val (.int yc_2), .val (.int yc_3), .val (.int yc_4), .unset, .unset, .unset] [])) (fun t k => XS.icmpNo X4.here hx rfl (hb hby at_71) rfl (XT.ii_ne_f k2) k) ?_
        refine own_via (T4.setTop (mkF m 76 #[.val (.int i0), .val (.int i1), .val (.int i2), .val (.int i3), .val (.int i4), .val (.int nn), .val (.int pp), .val (.int yc_1), .val (.int yc_2), .val (.int yc_3), .val (.int yc_4), .unset, .unset, .unset] [(.int (58 : Int32))])) (fun t k => XS.bipush X4.here hx rfl (hb hby at_74) k) ?_
        refine own_via (T4.setTop (mkF m 78 #[.val (.int i0), .val (.int i1), .val (.int i2), .val (.int i3), .val (.int i4), .val (.int nn), .val (.int pp), .val (.int yc_1), .val (.int yc_2), .val (.int (58 : Int32)), .val (.int yc_4), .unset, .unset, .unset] [])) (fun t k => XS.istore X4.here hx rfl (hb hby at_76) rfl (l' := #[.val (.int i0), .val (.int i1), .val (.int i2), .val (.int i3), .val (.int i4), .val (.int nn), .val (.int pp), .val (.int yc_1), .val (.int yc_2), .val (.int (58 : Int32)), .val (.int yc_4), .unset, .unset, .unset]) rfl k) ?_
        refine own_via (T4.setTop (mkF m 85 #[.val (.int i0), .val (.int i1), .val (.int i2), .val (.int i3), .val (.int i4), .val (.int nn), .val (.int pp), .val (.int yc_1), .val (.int yc_2), .val (.int (58 : Int32)), .val (.int yc_4), .unset, .unset, .unset] [])) (fun t k => XS.goto X4.here hx rfl (pc0 := 78) (pc' := 85) rfl (hb hby at_78) (by decide) (by decide) k) ?_
        exact J85 _ _ _ _ m1_0 m2_0 (by decide) m4_0 (own_has2 hnp k2)
      · refine own_via (T4.setTop (mkF m 81 #[.val (.int i0), .val (.int i1), .val (.int i2), .val (.int i3), .val (.int i4), .val (.int nn), .val (.int pp), .val (.int yc_1), .val (.int yc_2), .val (.int yc_3), .val (.int yc_4), .unset, .unset, .unset] [])) (fun t k => XS.icmpYes X4.here hx rfl (pc0 := 71) (pc' := 81) rfl (hb hby at_71) rfl (XT.ii_ne_t k2) (by decide) (by decide) k) ?_
        refine own_via (T4.setTop (mkF m 83 #[.val (.int i0), .val (.int i1), .val (.int i2), .val (.int i3), .val (.int i4), .val (.int nn), .val (.int pp), .val (.int yc_1), .val (.int yc_2), .val (.int yc_3), .val (.int yc_4), .unset, .unset, .unset] [(.int (58 : Int32))])) (fun t k => XS.bipush X4.here hx rfl (hb hby at_81) k) ?_
        refine own_via (T4.setTop (mkF m 85 #[.val (.int i0), .val (.int i1), .val (.int i2), .val (.int i3), .val (.int i4), .val (.int nn), .val (.int pp), .val (.int yc_1), .val (.int yc_2), .val (.int yc_3), .val (.int (58 : Int32)), .unset, .unset, .unset] [])) (fun t k => XS.istore X4.here hx rfl (hb hby at_83) rfl (l' := #[.val (.int i0), .val (.int i1), .val (.int i2), .val (.int i3), .val (.int i4), .val (.int nn), .val (.int pp), .val (.int yc_1), .val (.int yc_2), .val (.int yc_3), .val (.int (58 : Int32)), .unset, .unset, .unset]) rfl k) ?_
        exact J85 _ _ _ _ m1_0 m2_0 m3_0 (by decide) (own_has3 hnp k0 k1 k2)
set_option maxRecDepth 65536 in
set_option maxHeartbeats 40000000 in
theorem comes_1 {Post : Tables → Env → Array Value → State → Outcome → State → Prop} (hpost : ∀ tb e args s v u, (limb_1_1.after args s (.returned v) u = true ∧ limb_1_2.after args s (.returned v) u = true ∧ True) → ReturnedEndW s (.returned v) u (Jvm.fieldLocs frame_1_writes args s ++ Jvm.arrayLocs frame_1_arrays args s ++ Jvm.staticLocs frame_1_statics s) 24 1152 → Post tb e args s (.returned v) u) :
    ArmFor flags0 classFile x code maxLocals ret World_1 tables_1 room_1 Calls_1 rest_1 Pre_1 Post := by
  intro l hfl _ _ p e ha hc hk s m args below hf hA hF happ hP
  obtain ⟨hcalls, hrest, hpre⟩ := hP
  obtain ⟨-, -, -, hnamed, -, -, -, hat⟩ := (Spec.applies_iff hf).mp happ
  obtain ⟨hg, hn⟩ := and_e (Cond.before_iff.mp (show (Jvm.Cond.and given_1 narrow_1).before args s = true from hpre))
  obtain ⟨hcount, ga0⟩ := and_e hg
  obtain ⟨gv0, ga1⟩ := and_e ga0
  obtain ⟨gv1, ga2⟩ := and_e ga1
  obtain ⟨gv2, ga3⟩ := and_e ga2
  obtain ⟨gv3, ga4⟩ := and_e ga3
  obtain ⟨w0, w1, w2, w3, w4, rfl⟩ : ∃ w0 w1 w2 w3 w4 : Value, args = #[w0, w1, w2, w3, w4] := by
    have hs : args.size = 5 := by simpa [Cond.value, given_1] using hcount
    obtain ⟨L⟩ := args
    match L, hs with
    | [w0, w1, w2, w3, w4], _ => exact ⟨w0, w1, w2, w3, w4, rfl⟩
  have hw := fun d (hd : d ∈ tables_1) => atoms_spec (ws := Jvm.Cond.code x code maxLocals ret :: tables_1) hat d (List.mem_cons_of_mem _ hd)
  obtain ⟨hsets, hown0⟩ := atoms_of _ (rest_1_c_eq ▸ (show rest_1_c.before _ s = true from hrest))
  have hfit : Fit s := fun {y c} hc i hi => by
    obtain ⟨ha, rfl⟩ := Array.getElem?_eq_some_iff.mp hc
    have q := List.all_eq_true.mp ((Array.all_eq_true_iff_forall_mem.mp hF) _ (Array.getElem_mem ha)) i (List.mem_range.mpr hi)
    simpa [Array.getElem?_eq_getElem hi] using q
  obtain ⟨i0, ev0⟩ := is_v gv0
  obtain rfl : w0 = (.int i0) := Option.some.inj ev0
  obtain ⟨i1, ev1⟩ := is_v gv1
  obtain rfl : w1 = (.int i1) := Option.some.inj ev1
  obtain ⟨i2, ev2⟩ := is_v gv2
  obtain rfl : w2 = (.int i2) := Option.some.inj ev2
  obtain ⟨i3, ev3⟩ := is_v gv3
  obtain rfl : w3 = (.int i3) := Option.some.inj ev3
  obtain ⟨i4, ev4⟩ := is_v ga4
  obtain rfl : w4 = (.int i4) := Option.some.inj ev4
  obtain ⟨i11, e10⟩ := is_v (Cond.before_iff.mp (hsets _ (List.mem_of_getElem? (i := 1) rfl)))
  have S12 : Sta s s.heap "java/lang/String" "COMPACT_STRINGS" "Z" (.int i11) := Sta.start e10 (Or.inl (hsets _ (List.mem_of_getElem? (i := 0) rfl)))
  have c17 : ¬ (i11 = (0 : Int32)) := gotF (Cond.eq_ints e10 (Term.int_eval (0))) (not_v (Cond.before_iff.mp (hsets _ (List.mem_of_getElem? (i := 2) rfl))))
  obtain ⟨fm, efm, rfm⟩ := isR_v (Cond.before_iff.mp (hsets _ (List.mem_of_getElem? (i := 8) rfl)))
  have SF : Sta s s.heap "jdk/internal/util/Preconditions" "SIOOBE_FORMATTER" "Ljava/util/function/BiFunction;" fm := Sta.start efm (Or.inl (hsets _ (List.mem_of_getElem? (i := 7) rfl)))
  have hCH : CHv s own_EL s.vm s.heap := CHv.start (own_EW hw) hcalls.1 (hsets _ (List.mem_of_getElem? (i := 2) rfl)) (hw _ (List.mem_of_getElem? (i := 23) rfl)) (hw _ (List.mem_of_getElem? (i := 5) rfl))
  obtain ⟨n, o, h1, h2, h3, _, L, rfl, ⟨rfl, N⟩, hch, hq⟩ := rm_law l s _ hw i0 i1 i2 i3 i4 i11 fm s.heap s.heap.size (Nat.le_refl _) S12 SF (Old.start s) c17 rfm tables_1 p e ha hc hk s m _ below hf ((Spec.applies_iff_loose hf).mp happ).1 ⟨rfl, State.Warmed39.refl s, rfl, hCH⟩ trivial
  refine ⟨n, _, h1, h2, h3, hpost _ _ _ _ _ _ ⟨Cond.after_iff.mpr rfl, Cond.after_iff.mpr (eq_i res_at (Term.int_eval (1)) rfl), trivial⟩ ⟨hq.1, hq.2.1, hq.2.2.1, (hq.2.2.2.sift fun y hy => Or.inr (N y hy)).mono (by decide) (by decide)⟩⟩
theorem main_1_1 : Claimed_1_1 := comes_1 fun _ _ _ _ _ _ h hF => ⟨h.1, hF⟩
theorem main_1_2 : Claimed_1_2 := comes_1 fun _ _ _ _ _ _ h hF => ⟨h.2.1, hF⟩
end Jvm.Pilot.@@N@@
namespace Jvm.Pilot.@@N@@
open Jvm Jvm.ClassFile Sem Op Lib Jvm.Free Jvm.Stand Jvm.Pilot.@@N@@.Jvm.D
/-! MADE BY PROGRAM (witnessworld.py) out of the Statement's table words and the real class files: 23 classes; the members and pool entries that the words name. The judged class is class 1, her method 2. -/
namespace start1
open Jvm.ClassFile
def u (s : String) : CpInfo := .utf8 (stringToUtf16 s)
/-- a pool by its gaps: so many unusable entries, then the entry; so many at the end -/
def gap : Nat → List CpInfo → List CpInfo
  | 0, r => r
  | n + 1, r => .unusable :: gap n r
def poolList (es : List (Nat × CpInfo)) (last : Nat) : List CpInfo := es.foldr (fun e r => gap e.1 (e.2 :: r)) (gap last [])
def pool (es : List (Nat × CpInfo)) (last : Nat) : Array CpInfo := ⟨poolList es last⟩
def fileOf (pool : Array CpInfo) (this : Nat) (attrs : Array Attribute := #[]) (ms : Array MethodInfo := #[]) (fl : Nat := 33) (sup : Nat := 0) (ifs : Array Nat := #[]) (fds : Array FieldInfo := #[]) : ClassFile where
  minorVersion := 0
  majorVersion := 65
  constantPool := pool
  accessFlags := fl
  thisClass := this
  superClass := sup
  interfaces := ifs
  fields := fds
  methods := ms
  attributes := attrs
def plain (name : String) (sup : Option ClassId) : Class where
  name := name
  kind := .ordinary
  loader := none
  accessFlags := 33
  super := sup
  interfaces := #[]
  cf := none
  fields := #[]
  methods := #[]
  instanceTypes := #[]
  staticTypes := #[]
  resolved := #[]
  callSites := []
  init := .initialized
  statics := none
  mirror := none

def pool0 : Array CpInfo := pool [(5, u "<init>"), (0, u "()V"), (1, .class_ 10), (1, u "java/lang/Object")] 113

def k0c0 : Code := { maxStack := 0, maxLocals := 1, code := object_method_1_code, exceptionTable := #[], attributes := #[] }
def k0m0 : Method := { name := "<init>", desc := "()V", sig := { parameters := [], returnType := none }, accessFlags := 1, code := some k0c0 }
/-- java/lang/Object -/
def k0 : Class := { plain "java/lang/Object" none with
  accessFlags := 33
  interfaces := #[]
  cf := some (fileOf pool0 8 #[] #[{ accessFlags := 1, nameIndex := 5, descriptorIndex := 6, attributes := #[] }] 33 0 #[] #[])
  fields := #[]
  methods := #[k0m0]
  instanceTypes := #[]
  staticTypes := #[]
  resolved := Array.replicate 124 none
  statics := none }

def pool1 : Array CpInfo := pool [(2, .class_ 4), (1, u "java/lang/Object"), (0, u "<init>"), (0, u "()V"), (0, .methodref 8 9), (0, .class_ 10), (0, .nameAndType 11 12), (0, u "com/example/keyhole_limpet/keyholelimpet/OwnerIdentityClientIdOfPinLaw"), (0, u "ch"), (0, u "(I)C"), (0, .class_ 14), (0, u "java/lang/String"), (0, .methodref 13 16), (0, .nameAndType 5 17), (0, u "([C)V"), (0, .methodref 19 20), (0, .class_ 21), (0, .nameAndType 22 23), (0, u "com/example/keyhole_limpet/keyholelimpet/OwnerIdentity"), (0, u "clientIdOf"), (0, u "(Ljava/lang/String;)Ljava/lang/String;"), (0, .methodref 13 25), (0, .nameAndType 26 27), (0, u "length"), (0, u "()I"), (0, .methodref 13 29), (0, .nameAndType 30 12), (0, u "charAt"), (3, u "law"), (0, u "(IIIII)Z")] 2

def k1m0 : Method := { name := "<init>", desc := "()V", sig := { parameters := [], returnType := none }, accessFlags := 1, code := none }
def k1c1 : Code := { maxStack := 2, maxLocals := 1, code := method_2_code, exceptionTable := #[], attributes := #[] }
def k1m1 : Method := { name := "ch", desc := "(I)C", sig := { parameters := [.int], returnType := some .char }, accessFlags := 10, code := some k1c1 }
def k1c2 : Code := { maxStack := 6, maxLocals := 14, code := code, exceptionTable := #[], attributes := #[] }
def k1m2 : Method := { name := "law", desc := "(IIIII)Z", sig := { parameters := [.int, .int, .int, .int, .int], returnType := some .boolean }, accessFlags := 9, code := some k1c2 }
/-- com/example/keyhole_limpet/keyholelimpet/OwnerIdentityClientIdOfPinLaw -/
def k1 : Class := { plain "com/example/keyhole_limpet/keyholelimpet/OwnerIdentityClientIdOfPinLaw" (some 0) with
  accessFlags := 49
  interfaces := #[]
  cf := some (fileOf pool1 8 #[] #[{ accessFlags := 1, nameIndex := 5, descriptorIndex := 6, attributes := #[] }, { accessFlags := 10, nameIndex := 11, descriptorIndex := 12, attributes := #[] }, { accessFlags := 9, nameIndex := 34, descriptorIndex := 35, attributes := #[] }] 49 2 #[] #[])
  fields := #[]
  methods := #[k1m0, k1m1, k1m2]
  instanceTypes := #[]
  staticTypes := #[]
  resolved := Array.replicate 38 none
  statics := none }

def pool2 : Array CpInfo := pool [(1, .class_ 2), (0, u "java/io/Serializable"), (0, .class_ 4), (0, u "java/lang/Object")] 2

/-- java/io/Serializable -/
def k2 : Class := { plain "java/io/Serializable" (some 0) with
  accessFlags := 1537
  interfaces := #[]
  cf := some (fileOf pool2 1 #[] #[] 1537 3 #[] #[])
  fields := #[]
  methods := #[]
  instanceTypes := #[]
  staticTypes := #[]
  resolved := Array.replicate 7 none
  statics := none }

def pool3 : Array CpInfo := pool [(1, .class_ 2), (0, u "java/lang/Comparable"), (0, .class_ 4), (0, u "java/lang/Object")] 7

/-- java/lang/Comparable -/
def k3 : Class := { plain "java/lang/Comparable" (some 0) with
  accessFlags := 1537
  interfaces := #[]
  cf := some (fileOf pool3 1 #[] #[] 1537 3 #[] #[])
  fields := #[]
  methods := #[]
  instanceTypes := #[]
  staticTypes := #[]
  resolved := Array.replicate 12 none
  statics := none }

def pool4 : Array CpInfo := pool [(2, .class_ 4), (1, u "java/lang/CharSequence"), (42, .class_ 48), (0, u "java/lang/CharSequence$1CodePointIterator"), (10, .class_ 60), (0, u "java/lang/CharSequence$1CharIterator"), (5, .class_ 67), (0, u "java/lang/Object")] 63

/-- java/lang/CharSequence -/
def k4 : Class := { plain "java/lang/CharSequence" (some 0) with
  accessFlags := 1537
  interfaces := #[]
  cf := some (fileOf pool4 2 #[.nestMembers #[47, 59]] #[] 1537 66 #[] #[])
  fields := #[]
  methods := #[]
  instanceTypes := #[]
  staticTypes := #[]
  resolved := Array.replicate 131 none
  statics := none }

def pool5 : Array CpInfo := pool [(1, .class_ 2), (0, u "java/lang/constant/Constable"), (0, .class_ 4), (0, u "java/lang/Object")] 6

/-- java/lang/constant/Constable -/
def k5 : Class := { plain "java/lang/constant/Constable" (some 0) with
  accessFlags := 1537
  interfaces := #[]
  cf := some (fileOf pool5 1 #[] #[] 1537 3 #[] #[])
  fields := #[]
  methods := #[]
  instanceTypes := #[]
  staticTypes := #[]
  resolved := Array.replicate 11 none
  statics := none }

def pool6 : Array CpInfo := pool [(1, .class_ 2), (0, u "java/lang/constant/ConstantDesc"), (0, .class_ 4), (0, u "java/lang/Object")] 32

/-- java/lang/constant/ConstantDesc -/
def k6 : Class := { plain "java/lang/constant/ConstantDesc" (some 0) with
  accessFlags := 1537
  interfaces := #[]
  cf := some (fileOf pool6 1 #[] #[] 1537 3 #[] #[])
  fields := #[]
  methods := #[]
  instanceTypes := #[]
  staticTypes := #[]
  resolved := Array.replicate 37 none
  statics := none }

def pool7 : Array CpInfo := pool [(1, .methodref 2 3), (0, .class_ 4), (0, .nameAndType 5 6), (0, u "java/lang/Object"), (0, u "<init>"), (0, u "()V"), (2, .fieldref 10 11), (0, .class_ 12), (0, .nameAndType 13 14), (0, u "java/lang/String"), (0, u "value"), (0, u "[B"), (0, .fieldref 10 16), (0, .nameAndType 17 18), (0, u "coder"), (0, u "B"), (2, u "hash"), (0, u "I"), (2, u "hashIsZero"), (0, u "Z"), (0, .methodref 10 28), (0, .nameAndType 5 29), (0, u "([CIILjava/lang/Void;)V"), (8, .fieldref 10 39), (0, .nameAndType 40 26), (0, u "COMPACT_STRINGS"), (1, .class_ 44), (1, u "java/lang/StringUTF16"), (0, u "compress"), (1, .methodref 42 48), (0, .nameAndType 49 50), (0, u "coderFromArrayLen"), (0, u "([BI)B"), (46, u "([BII)I"), (9, .class_ 109), (1, u "java/lang/StringLatin1"), (32, u "()Z"), (34, .methodref 42 178), (0, .nameAndType 45 179), (0, u "([CII)[B"), (31, u "([BB)V"), (122, u "()I"), (0, .methodref 10 336), (0, .nameAndType 17 337), (0, u "()B"), (25, u "([BI)C"), (27, u "(II)V"), (35, u "(I)C"), (64, .methodref 10 493), (0, .nameAndType 494 142), (0, u "isLatin1"), (0, .methodref 107 496), (0, .nameAndType 497 363), (0, u "charAt"), (3, u "checkIndex"), (3, .methodref 10 506), (0, .nameAndType 507 334), (0, u "length"), (5, u "checkFromToIndex"), (7, .methodref 10 522), (0, .nameAndType 523 524), (0, u "checkBoundsBeginEnd"), (0, u "(III)V"), (50, .class_ 576), (0, u "java/lang/CharSequence"), (22, u "CASE_INSENSITIVE_ORDER"), (0, u "Ljava/util/Comparator;"), (35, u "(II)I"), (4, .methodref 10 642), (0, .nameAndType 643 636), (0, u "lastIndexOf"), (0, .methodref 107 645), (0, .nameAndType 643 97), (37, u "substring"), (0, u "(II)Ljava/lang/String;"), (0, .methodref 107 686), (0, .nameAndType 687 688), (0, u "newString"), (0, u "([BII)Ljava/lang/String;"), (76, u "(I)I"), (244, u "([C)V"), (42, .fieldref 1054 1055), (0, .class_ 1056), (0, .nameAndType 1057 1058), (0, u "jdk/internal/util/Preconditions"), (0, u "SIOOBE_FORMATTER"), (0, u "Ljava/util/function/BiFunction;"), (0, .methodref 1054 1060), (0, .nameAndType 501 1061), (0, u "(IILjava/util/function/BiFunction;)I"), (0, .methodref 1054 1063), (0, .nameAndType 513 1064), (0, u "(IIILjava/util/function/BiFunction;)I"), (36, u "serialPersistentFields"), (0, u "[Ljava/io/ObjectStreamField;"), (0, .class_ 1104), (0, u "java/lang/String$CaseInsensitiveComparator"), (1, .class_ 1107), (0, u "java/io/Serializable"), (0, .class_ 1109), (0, u "java/lang/Comparable"), (0, .class_ 1111), (0, u "java/lang/constant/Constable"), (0, .class_ 1113), (0, u "java/lang/constant/ConstantDesc"), (2, u "serialVersionUID"), (0, u "J"), (3, u "REPL"), (0, u "C"), (2, u "LATIN1"), (1, u "UTF16")] 323

def k7m0 : Method := { name := "<init>", desc := "()V", sig := { parameters := [], returnType := none }, accessFlags := 1, code := none }
def k7c1 : Code := { maxStack := 5, maxLocals := 2, code := jdk_42_method_3_code, exceptionTable := #[], attributes := #[] }
def k7m1 : Method := { name := "<init>", desc := "([C)V", sig := { parameters := [(.array .char)], returnType := none }, accessFlags := 1, code := some k7c1 }
def k7c2 : Code := { maxStack := 2, maxLocals := 1, code := jdk_42_method_54_code, exceptionTable := #[], attributes := #[] }
def k7m2 : Method := { name := "length", desc := "()I", sig := { parameters := [], returnType := some .int }, accessFlags := 1, code := some k7c2 }
def k7c3 : Code := { maxStack := 2, maxLocals := 2, code := jdk_42_method_56_code, exceptionTable := #[], attributes := #[] }
def k7m3 : Method := { name := "charAt", desc := "(I)C", sig := { parameters := [.int], returnType := some .char }, accessFlags := 1, code := some k7c3 }
def k7c4 : Code := { maxStack := 4, maxLocals := 2, code := jdk_42_method_82_code, exceptionTable := #[], attributes := #[] }
def k7m4 : Method := { name := "lastIndexOf", desc := "(I)I", sig := { parameters := [.int], returnType := some .int }, accessFlags := 1, code := some k7c4 }
def k7c5 : Code := { maxStack := 3, maxLocals := 3, code := jdk_42_method_83_code, exceptionTable := #[], attributes := #[] }
def k7m5 : Method := { name := "lastIndexOf", desc := "(II)I", sig := { parameters := [.int, .int], returnType := some .int }, accessFlags := 1, code := some k7c5 }
def k7c6 : Code := { maxStack := 3, maxLocals := 5, code := jdk_42_method_92_code, exceptionTable := #[], attributes := #[] }
def k7m6 : Method := { name := "substring", desc := "(II)Ljava/lang/String;", sig := { parameters := [.int, .int], returnType := some (.object "java/lang/String") }, accessFlags := 1, code := some k7c6 }
def k7c7 : Code := { maxStack := 4, maxLocals := 6, code := jdk_42_method_149_code, exceptionTable := #[], attributes := #[] }
def k7m7 : Method := { name := "<init>", desc := "([CIILjava/lang/Void;)V", sig := { parameters := [(.array .char), .int, .int, (.object "java/lang/Void")], returnType := none }, accessFlags := 2, code := some k7c7 }
def k7c8 : Code := { maxStack := 2, maxLocals := 3, code := jdk_42_method_151_code, exceptionTable := #[], attributes := #[] }
def k7m8 : Method := { name := "<init>", desc := "([BB)V", sig := { parameters := [(.array .byte), .byte], returnType := none }, accessFlags := 0, code := some k7c8 }
def k7c9 : Code := { maxStack := 1, maxLocals := 1, code := jdk_42_method_152_code, exceptionTable := #[], attributes := #[] }
def k7m9 : Method := { name := "coder", desc := "()B", sig := { parameters := [], returnType := some .byte }, accessFlags := 0, code := some k7c9 }
def k7c10 : Code := { maxStack := 1, maxLocals := 1, code := jdk_42_method_154_code, exceptionTable := #[], attributes := #[] }
def k7m10 : Method := { name := "isLatin1", desc := "()Z", sig := { parameters := [], returnType := some .boolean }, accessFlags := 0, code := some k7c10 }
def k7c11 : Code := { maxStack := 3, maxLocals := 2, code := jdk_42_method_155_code, exceptionTable := #[], attributes := #[] }
def k7m11 : Method := { name := "checkIndex", desc := "(II)V", sig := { parameters := [.int, .int], returnType := none }, accessFlags := 8, code := some k7c11 }
def k7c12 : Code := { maxStack := 4, maxLocals := 3, code := jdk_42_method_158_code, exceptionTable := #[], attributes := #[] }
def k7m12 : Method := { name := "checkBoundsBeginEnd", desc := "(III)V", sig := { parameters := [.int, .int, .int], returnType := none }, accessFlags := 8, code := some k7c12 }
/-- java/lang/String -/
def k7 : Class := { plain "java/lang/String" (some 0) with
  accessFlags := 49
  interfaces := #[2, 3, 4, 5, 6]
  cf := some (fileOf pool7 10 #[.nestMembers #[1103]] #[{ accessFlags := 1, nameIndex := 5, descriptorIndex := 6, attributes := #[] }, { accessFlags := 1, nameIndex := 5, descriptorIndex := 1010, attributes := #[] }, { accessFlags := 1, nameIndex := 507, descriptorIndex := 334, attributes := #[] }, { accessFlags := 1, nameIndex := 497, descriptorIndex := 427, attributes := #[] }, { accessFlags := 1, nameIndex := 643, descriptorIndex := 765, attributes := #[] }, { accessFlags := 1, nameIndex := 643, descriptorIndex := 636, attributes := #[] }, { accessFlags := 1, nameIndex := 683, descriptorIndex := 684, attributes := #[] }, { accessFlags := 2, nameIndex := 5, descriptorIndex := 29, attributes := #[] }, { accessFlags := 0, nameIndex := 5, descriptorIndex := 211, attributes := #[] }, { accessFlags := 0, nameIndex := 17, descriptorIndex := 337, attributes := #[] }, { accessFlags := 0, nameIndex := 494, descriptorIndex := 142, attributes := #[] }, { accessFlags := 8, nameIndex := 501, descriptorIndex := 391, attributes := #[] }, { accessFlags := 8, nameIndex := 523, descriptorIndex := 524, attributes := #[] }] 49 2 #[1106, 1108, 575, 1110, 1112] #[{ accessFlags := 18, nameIndex := 13, descriptorIndex := 14, attributes := #[] }, { accessFlags := 18, nameIndex := 17, descriptorIndex := 18, attributes := #[] }, { accessFlags := 2, nameIndex := 21, descriptorIndex := 22, attributes := #[] }, { accessFlags := 2, nameIndex := 25, descriptorIndex := 26, attributes := #[] }, { accessFlags := 26, nameIndex := 1116, descriptorIndex := 1117, attributes := #[] }, { accessFlags := 24, nameIndex := 40, descriptorIndex := 26, attributes := #[] }, { accessFlags := 26, nameIndex := 1101, descriptorIndex := 1102, attributes := #[] }, { accessFlags := 26, nameIndex := 1121, descriptorIndex := 1122, attributes := #[] }, { accessFlags := 25, nameIndex := 599, descriptorIndex := 600, attributes := #[] }, { accessFlags := 24, nameIndex := 1125, descriptorIndex := 18, attributes := #[] }, { accessFlags := 24, nameIndex := 1127, descriptorIndex := 18, attributes := #[] }])
  fields := #[{ name := "value", type := (.array .byte), accessFlags := 18, slot := 0, constantValue := 0 }, { name := "coder", type := .byte, accessFlags := 18, slot := 1, constantValue := 0 }, { name := "hash", type := .int, accessFlags := 2, slot := 2, constantValue := 0 }, { name := "hashIsZero", type := .boolean, accessFlags := 2, slot := 3, constantValue := 0 }, { name := "serialVersionUID", type := .long, accessFlags := 26, slot := 0, constantValue := 0 }, { name := "COMPACT_STRINGS", type := .boolean, accessFlags := 24, slot := 1, constantValue := 0 }, { name := "serialPersistentFields", type := (.array (.object "java/io/ObjectStreamField")), accessFlags := 26, slot := 2, constantValue := 0 }, { name := "REPL", type := .char, accessFlags := 26, slot := 3, constantValue := 0 }, { name := "CASE_INSENSITIVE_ORDER", type := (.object "java/util/Comparator"), accessFlags := 25, slot := 4, constantValue := 0 }, { name := "LATIN1", type := .byte, accessFlags := 24, slot := 5, constantValue := 0 }, { name := "UTF16", type := .byte, accessFlags := 24, slot := 6, constantValue := 0 }]
  methods := #[k7m0, k7m1, k7m2, k7m3, k7m4, k7m5, k7m6, k7m7, k7m8, k7m9, k7m10, k7m11, k7m12]
  instanceTypes := #[(.array .byte), .byte, .int, .boolean]
  staticTypes := #[.long, .boolean, (.array (.object "java/io/ObjectStreamField")), .char, (.object "java/util/Comparator"), .byte, .byte]
  resolved := Array.replicate 1451 none
  statics := some 0 }

def pool8 : Array CpInfo := pool [(6, .class_ 8), (1, u "java/lang/Object"), (0, u "<init>"), (0, u "()V"), (1, .class_ 14), (1, u "java/lang/StringUTF16"), (31, u "$assertionsDisabled"), (0, u "Z"), (13, u "HI_BYTE_SHIFT"), (0, u "I"), (2, u "LO_BYTE_SHIFT"), (49, .methodref 12 116), (0, .nameAndType 117 118), (0, u "compress"), (0, u "([CI[BII)I"), (3, u "([CII)[B"), (138, u "coderFromArrayLen"), (0, u "([BI)B"), (106, .class_ 371), (1, u "java/lang/StringUTF16$LinesSpliterator"), (58, u "MAX_LENGTH"), (196, .class_ 628), (0, u "java/lang/StringUTF16$CodePointsSpliterator"), (0, .class_ 630), (0, u "java/lang/StringUTF16$CharsSpliterator")] 4

def k8m0 : Method := { name := "<init>", desc := "()V", sig := { parameters := [], returnType := none }, accessFlags := 0, code := none }
def k8c1 : Code := { maxStack := 2, maxLocals := 2, code := jdk_52_method_15_code, exceptionTable := #[], attributes := #[] }
def k8m1 : Method := { name := "coderFromArrayLen", desc := "([BI)B", sig := { parameters := [(.array .byte), .int], returnType := some .byte }, accessFlags := 8, code := some k8c1 }
def k8c2 : Code := { maxStack := 5, maxLocals := 6, code := jdk_52_method_16_code, exceptionTable := #[], attributes := #[] }
def k8m2 : Method := { name := "compress", desc := "([CII)[B", sig := { parameters := [(.array .char), .int, .int], returnType := some (.array .byte) }, accessFlags := 9, code := some k8c2 }
def k8c3 : Code := { maxStack := 3, maxLocals := 7, code := jdk_52_method_21_code, exceptionTable := #[], attributes := #[] }
def k8m3 : Method := { name := "compress", desc := "([CI[BII)I", sig := { parameters := [(.array .char), .int, (.array .byte), .int, .int], returnType := some .int }, accessFlags := 9, code := some k8c3 }
/-- java/lang/StringUTF16 -/
def k8 : Class := { plain "java/lang/StringUTF16" (some 0) with
  accessFlags := 48
  interfaces := #[]
  cf := some (fileOf pool8 12 #[.nestMembers #[627, 629, 369]] #[{ accessFlags := 0, nameIndex := 9, descriptorIndex := 10, attributes := #[] }, { accessFlags := 8, nameIndex := 261, descriptorIndex := 262, attributes := #[] }, { accessFlags := 9, nameIndex := 117, descriptorIndex := 122, attributes := #[] }, { accessFlags := 9, nameIndex := 117, descriptorIndex := 118, attributes := #[] }] 48 6 #[] #[{ accessFlags := 26, nameIndex := 61, descriptorIndex := 62, attributes := #[] }, { accessFlags := 26, nameIndex := 65, descriptorIndex := 62, attributes := #[] }, { accessFlags := 24, nameIndex := 430, descriptorIndex := 62, attributes := #[] }, { accessFlags := 4120, nameIndex := 46, descriptorIndex := 47, attributes := #[] }])
  fields := #[{ name := "HI_BYTE_SHIFT", type := .int, accessFlags := 26, slot := 0, constantValue := 0 }, { name := "LO_BYTE_SHIFT", type := .int, accessFlags := 26, slot := 1, constantValue := 0 }, { name := "MAX_LENGTH", type := .int, accessFlags := 24, slot := 2, constantValue := 0 }, { name := "$assertionsDisabled", type := .boolean, accessFlags := 4120, slot := 3, constantValue := 0 }]
  methods := #[k8m0, k8m1, k8m2, k8m3]
  instanceTypes := #[]
  staticTypes := #[.int, .int, .int, .boolean]
  resolved := Array.replicate 635 none
  statics := none }

def pool9 : Array CpInfo := pool [(2, .class_ 4), (1, u "java/lang/Object"), (0, u "<init>"), (0, u "()V"), (11, .class_ 20), (1, u "com/example/keyhole_limpet/keyholelimpet/OwnerIdentity"), (0, u "clientId"), (0, u "Ljava/lang/String;"), (18, .methodref 42 43), (0, .class_ 44), (0, .nameAndType 45 46), (0, u "java/lang/String"), (0, u "lastIndexOf"), (0, u "(I)I"), (0, .methodref 42 48), (0, .nameAndType 49 50), (0, u "substring"), (0, u "(II)Ljava/lang/String;"), (4, u "clientIdOf"), (0, u "(Ljava/lang/String;)Ljava/lang/String;")] 17

def k9m0 : Method := { name := "<init>", desc := "()V", sig := { parameters := [], returnType := none }, accessFlags := 0, code := none }
def k9c1 : Code := { maxStack := 4, maxLocals := 1, code := prog_5_method_3_code, exceptionTable := #[], attributes := #[] }
def k9m1 : Method := { name := "clientIdOf", desc := "(Ljava/lang/String;)Ljava/lang/String;", sig := { parameters := [(.object "java/lang/String")], returnType := some (.object "java/lang/String") }, accessFlags := 8, code := some k9c1 }
/-- com/example/keyhole_limpet/keyholelimpet/OwnerIdentity -/
def k9 : Class := { plain "com/example/keyhole_limpet/keyholelimpet/OwnerIdentity" (some 0) with
  accessFlags := 48
  interfaces := #[]
  cf := some (fileOf pool9 18 #[] #[{ accessFlags := 0, nameIndex := 5, descriptorIndex := 6, attributes := #[] }, { accessFlags := 8, nameIndex := 55, descriptorIndex := 56, attributes := #[] }] 48 2 #[] #[{ accessFlags := 18, nameIndex := 21, descriptorIndex := 22, attributes := #[] }])
  fields := #[{ name := "clientId", type := (.object "java/lang/String"), accessFlags := 18, slot := 0, constantValue := 0 }]
  methods := #[k9m0, k9m1]
  instanceTypes := #[(.object "java/lang/String")]
  staticTypes := #[]
  resolved := Array.replicate 74 none
  statics := none }

def pool10 : Array CpInfo := pool [(1, .class_ 2), (0, u "java/lang/String"), (1, .class_ 6), (1, u "java/lang/Object"), (0, u "<init>"), (0, u "()V"), (0, .methodref 1 10), (0, .nameAndType 11 12), (0, u "checkIndex"), (0, u "(II)V"), (1, .class_ 16), (1, u "java/lang/StringLatin1"), (21, .methodref 39 40), (0, .class_ 41), (0, .nameAndType 42 43), (0, u "java/lang/Math"), (0, u "min"), (0, u "(II)I"), (9, u "([BI)C"), (34, .methodref 14 89), (0, .nameAndType 90 91), (0, u "canEncode"), (0, u "(I)Z"), (20, .methodref 1 113), (0, .nameAndType 7 114), (0, u "([BB)V"), (6, u "$assertionsDisabled"), (0, u "Z"), (8, .class_ 133), (1, u "java/util/Arrays"), (17, .string 152), (0, u ""), (43, u "newString"), (0, u "([BII)Ljava/lang/String;"), (23, .class_ 223), (1, u "java/lang/StringLatin1$LinesSpliterator"), (8, .methodref 131 233), (0, .nameAndType 234 235), (0, u "copyOfRange"), (0, u "([BII)[B"), (16, u "charAt"), (8, u "([BII)I"), (47, u "lastIndexOf"), (80, .class_ 391), (0, u "java/lang/StringLatin1$CharsSpliterator")] 3

def k10m0 : Method := { name := "<init>", desc := "()V", sig := { parameters := [], returnType := none }, accessFlags := 0, code := none }
def k10c1 : Code := { maxStack := 2, maxLocals := 2, code := jdk_43_method_2_code, exceptionTable := #[], attributes := #[] }
def k10m1 : Method := { name := "charAt", desc := "([BI)C", sig := { parameters := [(.array .byte), .int], returnType := some .char }, accessFlags := 9, code := some k10c1 }
def k10c2 : Code := { maxStack := 2, maxLocals := 1, code := jdk_43_method_4_code, exceptionTable := #[], attributes := #[] }
def k10m2 : Method := { name := "canEncode", desc := "(I)Z", sig := { parameters := [.int], returnType := some .boolean }, accessFlags := 9, code := some k10c2 }
def k10c3 : Code := { maxStack := 3, maxLocals := 4, code := jdk_43_method_27_code, exceptionTable := #[], attributes := #[] }
def k10m3 : Method := { name := "lastIndexOf", desc := "([BII)I", sig := { parameters := [(.array .byte), .int, .int], returnType := some .int }, accessFlags := 9, code := some k10c3 }
def k10c4 : Code := { maxStack := 6, maxLocals := 3, code := jdk_43_method_47_code, exceptionTable := #[], attributes := #[] }
def k10m4 : Method := { name := "newString", desc := "([BII)Ljava/lang/String;", sig := { parameters := [(.array .byte), .int, .int], returnType := some (.object "java/lang/String") }, accessFlags := 9, code := some k10c4 }
/-- java/lang/StringLatin1 -/
def k10 : Class := { plain "java/lang/StringLatin1" (some 0) with
  accessFlags := 48
  interfaces := #[]
  cf := some (fileOf pool10 14 #[.nestMembers #[390, 221]] #[{ accessFlags := 0, nameIndex := 7, descriptorIndex := 8, attributes := #[] }, { accessFlags := 9, nameIndex := 252, descriptorIndex := 53, attributes := #[] }, { accessFlags := 9, nameIndex := 90, descriptorIndex := 91, attributes := #[] }, { accessFlags := 9, nameIndex := 309, descriptorIndex := 261, attributes := #[] }, { accessFlags := 9, nameIndex := 196, descriptorIndex := 197, attributes := #[] }] 48 4 #[] #[{ accessFlags := 4120, nameIndex := 121, descriptorIndex := 122, attributes := #[] }])
  fields := #[{ name := "$assertionsDisabled", type := .boolean, accessFlags := 4120, slot := 0, constantValue := 0 }]
  methods := #[k10m0, k10m1, k10m2, k10m3, k10m4]
  instanceTypes := #[]
  staticTypes := #[.boolean]
  resolved := Array.replicate 395 none
  statics := none }

def pool11 : Array CpInfo := pool [(1, .class_ 2), (0, u "java/lang/Math"), (1, .class_ 6), (1, u "java/lang/Object"), (0, u "<init>"), (0, u "()V"), (89, .class_ 100), (1, u "java/lang/Math$RandomNumberGeneratorHolder"), (71, u "negativeZeroFloatBits"), (0, u "J"), (2, u "negativeZeroDoubleBits"), (24, u "min"), (43, u "$assertionsDisabled"), (0, u "Z"), (88, u "(II)I"), (2, u "twoToTheDoubleScaleDown"), (0, u "D"), (4, u "twoToTheDoubleScaleUp"), (9, u "E"), (3, u "PI"), (2, u "TAU"), (2, u "DEGREES_TO_RADIANS"), (0, u "RADIANS_TO_DEGREES")] 94

def k11m0 : Method := { name := "<init>", desc := "()V", sig := { parameters := [], returnType := none }, accessFlags := 2, code := none }
def k11c1 : Code := { maxStack := 2, maxLocals := 2, code := jdk_29_method_69_code, exceptionTable := #[], attributes := #[] }
def k11m1 : Method := { name := "min", desc := "(II)I", sig := { parameters := [.int, .int], returnType := some .int }, accessFlags := 9, code := some k11c1 }
/-- java/lang/Math -/
def k11 : Class := { plain "java/lang/Math" (some 0) with
  accessFlags := 49
  interfaces := #[]
  cf := some (fileOf pool11 1 #[.nestMembers #[98]] #[{ accessFlags := 2, nameIndex := 7, descriptorIndex := 8, attributes := #[] }, { accessFlags := 9, nameIndex := 201, descriptorIndex := 335, attributes := #[] }] 49 4 #[] #[{ accessFlags := 25, nameIndex := 354, descriptorIndex := 339, attributes := #[] }, { accessFlags := 25, nameIndex := 358, descriptorIndex := 339, attributes := #[] }, { accessFlags := 25, nameIndex := 361, descriptorIndex := 339, attributes := #[] }, { accessFlags := 26, nameIndex := 364, descriptorIndex := 339, attributes := #[] }, { accessFlags := 26, nameIndex := 365, descriptorIndex := 339, attributes := #[] }, { accessFlags := 26, nameIndex := 172, descriptorIndex := 173, attributes := #[] }, { accessFlags := 26, nameIndex := 176, descriptorIndex := 173, attributes := #[] }, { accessFlags := 8, nameIndex := 344, descriptorIndex := 339, attributes := #[] }, { accessFlags := 8, nameIndex := 338, descriptorIndex := 339, attributes := #[] }, { accessFlags := 4120, nameIndex := 245, descriptorIndex := 246, attributes := #[] }])
  fields := #[{ name := "E", type := .double, accessFlags := 25, slot := 0, constantValue := 0 }, { name := "PI", type := .double, accessFlags := 25, slot := 1, constantValue := 0 }, { name := "TAU", type := .double, accessFlags := 25, slot := 2, constantValue := 0 }, { name := "DEGREES_TO_RADIANS", type := .double, accessFlags := 26, slot := 3, constantValue := 0 }, { name := "RADIANS_TO_DEGREES", type := .double, accessFlags := 26, slot := 4, constantValue := 0 }, { name := "negativeZeroFloatBits", type := .long, accessFlags := 26, slot := 5, constantValue := 0 }, { name := "negativeZeroDoubleBits", type := .long, accessFlags := 26, slot := 6, constantValue := 0 }, { name := "twoToTheDoubleScaleUp", type := .double, accessFlags := 8, slot := 7, constantValue := 0 }, { name := "twoToTheDoubleScaleDown", type := .double, accessFlags := 8, slot := 8, constantValue := 0 }, { name := "$assertionsDisabled", type := .boolean, accessFlags := 4120, slot := 9, constantValue := 0 }]
  methods := #[k11m0, k11m1]
  instanceTypes := #[]
  staticTypes := #[.double, .double, .double, .double, .double, .long, .long, .double, .double, .boolean]
  resolved := Array.replicate 460 none
  statics := none }

def pool12 : Array CpInfo := pool [(2, .class_ 4), (1, u "java/lang/Object"), (0, u "<init>"), (0, u "()V"), (17, .class_ 26), (1, u "jdk/internal/util/Preconditions"), (6, u "checkIndex"), (13, u "checkFromToIndex"), (7, .class_ 56), (0, u "jdk/internal/util/Preconditions$4"), (57, .class_ 115), (0, u "jdk/internal/util/Preconditions$1"), (7, u "SIOOBE_FORMATTER"), (0, u "Ljava/util/function/BiFunction;"), (0, .class_ 126), (0, u "jdk/internal/util/Preconditions$2"), (3, u "AIOOBE_FORMATTER"), (0, .class_ 132), (0, u "jdk/internal/util/Preconditions$3"), (3, u "IOOBE_FORMATTER"), (41, u "(IILjava/util/function/BiFunction;)I"), (4, u "(IIILjava/util/function/BiFunction;)I")] 10

def k12m0 : Method := { name := "<init>", desc := "()V", sig := { parameters := [], returnType := none }, accessFlags := 1, code := none }
def k12c1 : Code := { maxStack := 3, maxLocals := 3, code := jdk_41_method_11_code, exceptionTable := #[], attributes := #[] }
def k12m1 : Method := { name := "checkIndex", desc := "(IILjava/util/function/BiFunction;)I", sig := { parameters := [.int, .int, (.object "java/util/function/BiFunction")], returnType := some .int }, accessFlags := 9, code := some k12c1 }
def k12c2 : Code := { maxStack := 4, maxLocals := 4, code := jdk_41_method_12_code, exceptionTable := #[], attributes := #[] }
def k12m2 : Method := { name := "checkFromToIndex", desc := "(IIILjava/util/function/BiFunction;)I", sig := { parameters := [.int, .int, .int, (.object "java/util/function/BiFunction")], returnType := some .int }, accessFlags := 9, code := some k12c2 }
/-- jdk/internal/util/Preconditions -/
def k12 : Class := { plain "jdk/internal/util/Preconditions" (some 0) with
  accessFlags := 33
  interfaces := #[]
  cf := some (fileOf pool12 24 #[.nestMembers #[55, 131, 125, 114]] #[{ accessFlags := 1, nameIndex := 5, descriptorIndex := 6, attributes := #[] }, { accessFlags := 9, nameIndex := 33, descriptorIndex := 178, attributes := #[] }, { accessFlags := 9, nameIndex := 47, descriptorIndex := 183, attributes := #[] }] 33 2 #[] #[{ accessFlags := 25, nameIndex := 123, descriptorIndex := 124, attributes := #[] }, { accessFlags := 25, nameIndex := 130, descriptorIndex := 124, attributes := #[] }, { accessFlags := 25, nameIndex := 136, descriptorIndex := 124, attributes := #[] }])
  fields := #[{ name := "SIOOBE_FORMATTER", type := (.object "java/util/function/BiFunction"), accessFlags := 25, slot := 0, constantValue := 0 }, { name := "AIOOBE_FORMATTER", type := (.object "java/util/function/BiFunction"), accessFlags := 25, slot := 1, constantValue := 0 }, { name := "IOOBE_FORMATTER", type := (.object "java/util/function/BiFunction"), accessFlags := 25, slot := 2, constantValue := 0 }]
  methods := #[k12m0, k12m1, k12m2]
  instanceTypes := #[]
  staticTypes := #[(.object "java/util/function/BiFunction"), (.object "java/util/function/BiFunction"), (.object "java/util/function/BiFunction")]
  resolved := Array.replicate 194 none
  statics := some 1 }

def pool13 : Array CpInfo := pool [(2, .class_ 4), (1, u "java/lang/Object"), (0, u "<init>"), (0, u "()V"), (7, .class_ 16), (1, u "java/util/Arrays"), (57, .class_ 76), (1, u "java/util/Arrays$NaturalOrder"), (36, .class_ 115), (1, u "java/util/Arrays$LegacyMergeSort"), (1, u "Z"), (21, u "copyOfRange"), (10, .methodref 151 152), (0, .class_ 153), (0, .nameAndType 154 155), (0, u "java/lang/System"), (0, u "arraycopy"), (0, u "(Ljava/lang/Object;ILjava/lang/Object;II)V"), (148, .methodref 305 306), (0, .class_ 307), (0, .nameAndType 308 309), (0, u "java/lang/Math"), (0, u "min"), (0, u "(II)I"), (29, .methodref 14 340), (0, .nameAndType 341 342), (0, u "copyOfRangeByte"), (0, u "([BII)[B"), (0, .methodref 14 344), (0, .nameAndType 345 346), (0, u "checkLength"), (0, u "(II)V"), (28, .class_ 376), (0, u "java/util/Arrays$ArrayList"), (68, u "$assertionsDisabled"), (269, u "MIN_ARRAY_SORT_GRAN"), (0, u "I"), (2, u "INSERTIONSORT_THRESHOLD"), (255, .class_ 976), (0, u "java/util/Arrays$ArrayItr")] 52

def k13m0 : Method := { name := "<init>", desc := "()V", sig := { parameters := [], returnType := none }, accessFlags := 2, code := none }
def k13c1 : Code := { maxStack := 4, maxLocals := 2, code := jdk_65_method_131_code, exceptionTable := #[], attributes := #[] }
def k13m1 : Method := { name := "checkLength", desc := "(II)V", sig := { parameters := [.int, .int], returnType := none }, accessFlags := 10, code := some k13c1 }
def k13c2 : Code := { maxStack := 3, maxLocals := 3, code := jdk_65_method_132_code, exceptionTable := #[], attributes := #[] }
def k13m2 : Method := { name := "copyOfRange", desc := "([BII)[B", sig := { parameters := [(.array .byte), .int, .int], returnType := some (.array .byte) }, accessFlags := 9, code := some k13c2 }
def k13c3 : Code := { maxStack := 6, maxLocals := 5, code := jdk_65_method_133_code, exceptionTable := #[], attributes := #[] }
def k13m3 : Method := { name := "copyOfRangeByte", desc := "([BII)[B", sig := { parameters := [(.array .byte), .int, .int], returnType := some (.array .byte) }, accessFlags := 10, code := some k13c3 }
/-- java/util/Arrays -/
def k13 : Class := { plain "java/util/Arrays" (some 0) with
  accessFlags := 49
  interfaces := #[]
  cf := some (fileOf pool13 14 #[.nestMembers #[975, 375, 113, 74]] #[{ accessFlags := 2, nameIndex := 5, descriptorIndex := 6, attributes := #[] }, { accessFlags := 10, nameIndex := 345, descriptorIndex := 346, attributes := #[] }, { accessFlags := 9, nameIndex := 139, descriptorIndex := 342, attributes := #[] }, { accessFlags := 10, nameIndex := 341, descriptorIndex := 342, attributes := #[] }] 49 2 #[] #[{ accessFlags := 26, nameIndex := 715, descriptorIndex := 716, attributes := #[] }, { accessFlags := 26, nameIndex := 719, descriptorIndex := 716, attributes := #[] }, { accessFlags := 4120, nameIndex := 445, descriptorIndex := 117, attributes := #[] }])
  fields := #[{ name := "MIN_ARRAY_SORT_GRAN", type := .int, accessFlags := 26, slot := 0, constantValue := 0 }, { name := "INSERTIONSORT_THRESHOLD", type := .int, accessFlags := 26, slot := 1, constantValue := 0 }, { name := "$assertionsDisabled", type := .boolean, accessFlags := 4120, slot := 2, constantValue := 0 }]
  methods := #[k13m0, k13m1, k13m2, k13m3]
  instanceTypes := #[]
  staticTypes := #[.int, .int, .boolean]
  resolved := Array.replicate 1029 none
  statics := none }

def pool14 : Array CpInfo := pool [(2, .class_ 4), (1, u "java/lang/Object"), (0, u "<init>"), (0, u "()V"), (1, .class_ 10), (1, u "java/lang/System"), (0, u "allowSecurityManager"), (0, u "I"), (16, u "cons"), (0, u "Ljava/io/Console;"), (77, .class_ 110), (1, u "java/lang/System$CallersHolder"), (43, u "initialErrStream"), (0, u "Ljava/io/PrintStream;"), (19, u "security"), (0, u "Ljava/lang/SecurityManager;"), (31, .class_ 209), (0, u "java/lang/System$1"), (7, u "props"), (0, u "Ljava/util/Properties;"), (2, u "lineSeparator"), (0, u "Ljava/lang/String;"), (96, .class_ 321), (1, u "java/lang/System$LoggerFinder"), (5, .class_ 328), (0, u "java/lang/System$Logger"), (67, u "err"), (2, u "out"), (91, u "notSupportedJnuEncoding"), (15, u "in"), (17, u "initialIn"), (0, u "Ljava/io/InputStream;"), (35, u "bootLayer"), (0, u "Ljava/lang/ModuleLayer;"), (99, .class_ 664), (0, u "java/lang/System$2"), (9, u "NEVER"), (2, u "MAYBE"), (49, u "arraycopy"), (0, u "(Ljava/lang/Object;ILjava/lang/Object;II)V"), (72, .class_ 802), (0, u "java/lang/System$Logger$Level")] 31

def k14m0 : Method := { name := "<init>", desc := "()V", sig := { parameters := [], returnType := none }, accessFlags := 2, code := none }
def k14m1 : Method := { name := "arraycopy", desc := "(Ljava/lang/Object;ILjava/lang/Object;II)V", sig := { parameters := [(.object "java/lang/Object"), .int, (.object "java/lang/Object"), .int, .int], returnType := none }, accessFlags := 265, code := none }
/-- java/lang/System -/
def k14 : Class := { plain "java/lang/System" (some 0) with
  accessFlags := 49
  interfaces := #[]
  cf := some (fileOf pool14 8 #[.nestMembers #[319, 327, 801, 108, 663, 208]] #[{ accessFlags := 2, nameIndex := 5, descriptorIndex := 6, attributes := #[] }, { accessFlags := 265, nameIndex := 727, descriptorIndex := 728, attributes := #[] }] 49 2 #[] #[{ accessFlags := 25, nameIndex := 507, descriptorIndex := 526, attributes := #[] }, { accessFlags := 25, nameIndex := 399, descriptorIndex := 155, attributes := #[] }, { accessFlags := 25, nameIndex := 396, descriptorIndex := 155, attributes := #[] }, { accessFlags := 10, nameIndex := 525, descriptorIndex := 526, attributes := #[] }, { accessFlags := 26, nameIndex := 674, descriptorIndex := 12, attributes := #[] }, { accessFlags := 26, nameIndex := 677, descriptorIndex := 12, attributes := #[] }, { accessFlags := 10, nameIndex := 11, descriptorIndex := 12, attributes := #[] }, { accessFlags := 74, nameIndex := 175, descriptorIndex := 176, attributes := #[] }, { accessFlags := 10, nameIndex := 491, descriptorIndex := 222, attributes := #[] }, { accessFlags := 74, nameIndex := 29, descriptorIndex := 30, attributes := #[] }, { accessFlags := 74, nameIndex := 154, descriptorIndex := 155, attributes := #[] }, { accessFlags := 10, nameIndex := 217, descriptorIndex := 218, attributes := #[] }, { accessFlags := 10, nameIndex := 221, descriptorIndex := 222, attributes := #[] }, { accessFlags := 8, nameIndex := 562, descriptorIndex := 563, attributes := #[] }])
  fields := #[{ name := "in", type := (.object "java/io/InputStream"), accessFlags := 25, slot := 0, constantValue := 0 }, { name := "out", type := (.object "java/io/PrintStream"), accessFlags := 25, slot := 1, constantValue := 0 }, { name := "err", type := (.object "java/io/PrintStream"), accessFlags := 25, slot := 2, constantValue := 0 }, { name := "initialIn", type := (.object "java/io/InputStream"), accessFlags := 10, slot := 3, constantValue := 0 }, { name := "NEVER", type := .int, accessFlags := 26, slot := 4, constantValue := 0 }, { name := "MAYBE", type := .int, accessFlags := 26, slot := 5, constantValue := 0 }, { name := "allowSecurityManager", type := .int, accessFlags := 10, slot := 6, constantValue := 0 }, { name := "security", type := (.object "java/lang/SecurityManager"), accessFlags := 74, slot := 7, constantValue := 0 }, { name := "notSupportedJnuEncoding", type := (.object "java/lang/String"), accessFlags := 10, slot := 8, constantValue := 0 }, { name := "cons", type := (.object "java/io/Console"), accessFlags := 74, slot := 9, constantValue := 0 }, { name := "initialErrStream", type := (.object "java/io/PrintStream"), accessFlags := 74, slot := 10, constantValue := 0 }, { name := "props", type := (.object "java/util/Properties"), accessFlags := 10, slot := 11, constantValue := 0 }, { name := "lineSeparator", type := (.object "java/lang/String"), accessFlags := 10, slot := 12, constantValue := 0 }, { name := "bootLayer", type := (.object "java/lang/ModuleLayer"), accessFlags := 8, slot := 13, constantValue := 0 }]
  methods := #[k14m0, k14m1]
  instanceTypes := #[]
  staticTypes := #[(.object "java/io/InputStream"), (.object "java/io/PrintStream"), (.object "java/io/PrintStream"), (.object "java/io/InputStream"), .int, .int, .int, (.object "java/lang/SecurityManager"), (.object "java/lang/String"), (.object "java/io/Console"), (.object "java/io/PrintStream"), (.object "java/util/Properties"), (.object "java/lang/String"), (.object "java/lang/ModuleLayer")]
  resolved := Array.replicate 834 none
  statics := none }

def pool15 : Array CpInfo := pool [(9, u "<init>"), (6, .class_ 18), (1, u "java/lang/Object"), (0, u "()V"), (1, .class_ 23), (1, u "jdk/internal/util/ArraysSupport"), (0, u "LOG2_ARRAY_LONG_INDEX_SCALE"), (0, u "I"), (2, u "U"), (0, u "Ljdk/internal/misc/Unsafe;"), (8, u "BIG_ENDIAN"), (0, u "Z"), (8, u "LOG2_BYTE_BIT_SIZE"), (4, u "LOG2_ARRAY_INT_INDEX_SCALE"), (54, u "JLA"), (0, u "Ljdk/internal/access/JavaLangAccess;"), (11, u "LOG2_ARRAY_BOOLEAN_INDEX_SCALE"), (9, u "LOG2_ARRAY_BYTE_INDEX_SCALE"), (5, u "LOG2_ARRAY_CHAR_INDEX_SCALE"), (5, u "LOG2_ARRAY_SHORT_INDEX_SCALE"), (18, u "LOG2_ARRAY_FLOAT_INDEX_SCALE"), (24, u "LOG2_ARRAY_DOUBLE_INDEX_SCALE"), (89, u "T_BOOLEAN"), (2, u "T_CHAR"), (1, u "T_FLOAT"), (1, u "T_DOUBLE"), (1, u "T_BYTE"), (1, u "T_SHORT"), (1, u "T_INT"), (1, u "T_LONG"), (1, u "SOFT_MAX_ARRAY_LENGTH")] 83

def k15m0 : Method := { name := "<init>", desc := "()V", sig := { parameters := [], returnType := none }, accessFlags := 2, code := none }
/-- jdk/internal/util/ArraysSupport -/
def k15 : Class := { plain "jdk/internal/util/ArraysSupport" (some 0) with
  accessFlags := 33
  interfaces := #[]
  cf := some (fileOf pool15 21 #[] #[{ accessFlags := 2, nameIndex := 9, descriptorIndex := 19, attributes := #[] }] 33 16 #[] #[{ accessFlags := 24, nameIndex := 28, descriptorIndex := 29, attributes := #[] }, { accessFlags := 26, nameIndex := 38, descriptorIndex := 39, attributes := #[] }, { accessFlags := 25, nameIndex := 121, descriptorIndex := 25, attributes := #[] }, { accessFlags := 25, nameIndex := 131, descriptorIndex := 25, attributes := #[] }, { accessFlags := 25, nameIndex := 137, descriptorIndex := 25, attributes := #[] }, { accessFlags := 25, nameIndex := 143, descriptorIndex := 25, attributes := #[] }, { accessFlags := 25, nameIndex := 53, descriptorIndex := 25, attributes := #[] }, { accessFlags := 25, nameIndex := 24, descriptorIndex := 25, attributes := #[] }, { accessFlags := 25, nameIndex := 162, descriptorIndex := 25, attributes := #[] }, { accessFlags := 25, nameIndex := 187, descriptorIndex := 25, attributes := #[] }, { accessFlags := 26, nameIndex := 48, descriptorIndex := 25, attributes := #[] }, { accessFlags := 25, nameIndex := 277, descriptorIndex := 25, attributes := #[] }, { accessFlags := 25, nameIndex := 280, descriptorIndex := 25, attributes := #[] }, { accessFlags := 25, nameIndex := 282, descriptorIndex := 25, attributes := #[] }, { accessFlags := 25, nameIndex := 284, descriptorIndex := 25, attributes := #[] }, { accessFlags := 25, nameIndex := 286, descriptorIndex := 25, attributes := #[] }, { accessFlags := 25, nameIndex := 288, descriptorIndex := 25, attributes := #[] }, { accessFlags := 25, nameIndex := 290, descriptorIndex := 25, attributes := #[] }, { accessFlags := 25, nameIndex := 292, descriptorIndex := 25, attributes := #[] }, { accessFlags := 26, nameIndex := 108, descriptorIndex := 109, attributes := #[] }, { accessFlags := 25, nameIndex := 294, descriptorIndex := 25, attributes := #[] }])
  fields := #[{ name := "U", type := (.object "jdk/internal/misc/Unsafe"), accessFlags := 24, slot := 0, constantValue := 0 }, { name := "BIG_ENDIAN", type := .boolean, accessFlags := 26, slot := 1, constantValue := 0 }, { name := "LOG2_ARRAY_BOOLEAN_INDEX_SCALE", type := .int, accessFlags := 25, slot := 2, constantValue := 0 }, { name := "LOG2_ARRAY_BYTE_INDEX_SCALE", type := .int, accessFlags := 25, slot := 3, constantValue := 0 }, { name := "LOG2_ARRAY_CHAR_INDEX_SCALE", type := .int, accessFlags := 25, slot := 4, constantValue := 0 }, { name := "LOG2_ARRAY_SHORT_INDEX_SCALE", type := .int, accessFlags := 25, slot := 5, constantValue := 0 }, { name := "LOG2_ARRAY_INT_INDEX_SCALE", type := .int, accessFlags := 25, slot := 6, constantValue := 0 }, { name := "LOG2_ARRAY_LONG_INDEX_SCALE", type := .int, accessFlags := 25, slot := 7, constantValue := 0 }, { name := "LOG2_ARRAY_FLOAT_INDEX_SCALE", type := .int, accessFlags := 25, slot := 8, constantValue := 0 }, { name := "LOG2_ARRAY_DOUBLE_INDEX_SCALE", type := .int, accessFlags := 25, slot := 9, constantValue := 0 }, { name := "LOG2_BYTE_BIT_SIZE", type := .int, accessFlags := 26, slot := 10, constantValue := 0 }, { name := "T_BOOLEAN", type := .int, accessFlags := 25, slot := 11, constantValue := 0 }, { name := "T_CHAR", type := .int, accessFlags := 25, slot := 12, constantValue := 0 }, { name := "T_FLOAT", type := .int, accessFlags := 25, slot := 13, constantValue := 0 }, { name := "T_DOUBLE", type := .int, accessFlags := 25, slot := 14, constantValue := 0 }, { name := "T_BYTE", type := .int, accessFlags := 25, slot := 15, constantValue := 0 }, { name := "T_SHORT", type := .int, accessFlags := 25, slot := 16, constantValue := 0 }, { name := "T_INT", type := .int, accessFlags := 25, slot := 17, constantValue := 0 }, { name := "T_LONG", type := .int, accessFlags := 25, slot := 18, constantValue := 0 }, { name := "JLA", type := (.object "jdk/internal/access/JavaLangAccess"), accessFlags := 26, slot := 19, constantValue := 0 }, { name := "SOFT_MAX_ARRAY_LENGTH", type := .int, accessFlags := 25, slot := 20, constantValue := 0 }]
  methods := #[k15m0]
  instanceTypes := #[]
  staticTypes := #[(.object "jdk/internal/misc/Unsafe"), .boolean, .int, .int, .int, .int, .int, .int, .int, .int, .int, .int, .int, .int, .int, .int, .int, .int, .int, (.object "jdk/internal/access/JavaLangAccess"), .int]
  resolved := Array.replicate 378 none
  statics := none }

def pool16 : Array CpInfo := pool [(1, u "java/lang/Cloneable"), (0, .class_ 1), (0, u "java/lang/Object"), (0, .class_ 3)] 3

/-- java/lang/Cloneable -/
def k16 : Class := { plain "java/lang/Cloneable" (some 0) with
  accessFlags := 1537
  interfaces := #[]
  cf := some (fileOf pool16 2 #[] #[] 1537 4 #[] #[])
  fields := #[]
  methods := #[]
  instanceTypes := #[]
  staticTypes := #[]
  resolved := Array.replicate 8 none
  statics := none }

/-- the primitive byte -/
def k17 : Class := { plain "byte" none with kind := .primitive 'B', accessFlags := 0x411 }
/-- [B -/
def k18 : Class := { plain "[B" (some 0) with kind := .array 17 .byte, interfaces := #[16, 2], accessFlags := 1041 }

/-- the primitive char -/
def k19 : Class := { plain "char" none with kind := .primitive 'C', accessFlags := 0x411 }
/-- [C -/
def k20 : Class := { plain "[C" (some 0) with kind := .array 19 .char, interfaces := #[16, 2], accessFlags := 1041 }

/-- the primitive int -/
def k21 : Class := { plain "int" none with kind := .primitive 'I', accessFlags := 0x411 }
/-- [I -/
def k22 : Class := { plain "[I" (some 0) with kind := .array 21 .int, interfaces := #[16, 2], accessFlags := 1041 }

def heap : Heap := #[{ cls := 7, slots := #[.long 0, .int 1, .null, .int 0, .null, .int 0, .int 0], vm := .statics 7 },
  { cls := 12, slots := #[.null, .null, .null], vm := .statics 12 }]
def classes : Array Class := #[k0, k1, k2, k3, k4, k5, k6, k7, k8, k9, k10, k11, k12, k13, k14, k15, k16, k17, k18, k19, k20, k21, k22]
def interned : List (Array UInt16 × Addr) := []
def slotsUsed : Nat := 10
def theMethod : MethodId := ⟨1, 2⟩
def args0 : Array Value := #[.int 65, .int 66, .int 67, .int 68, .int 5]
def aboutOver (below : List Frame) : State where
  vm := { classes := classes, interned := interned.toArray }
  heap := heap
  slotsUsed := slotsUsed
  threads := #[{ frames := .invoking theMethod args0 :: below }]
def below0 : List Frame := [.native { method := ⟨0, 0⟩, args := #[] }]
def about1 : State := aboutOver below0
def p0 : Program := .bare "" "" ""
def e0 : Env := launch0.env 0 0 0
theorem w_frames : about1.frames = Frame.invoking theMethod args0 :: below0 := rfl
set_option maxRecDepth 65536 in
theorem w_args : argsFit about1.vm theMethod args0 = true := by decide +kernel
set_option maxRecDepth 65536 in
theorem w_heap : heapFits about1 = true := by decide +kernel
set_option maxRecDepth 65536 in
theorem w_runnable : about1.curStatus? = some .runnable := by decide +kernel
set_option maxRecDepth 65536 in
theorem w_alone : about1.alone = true := by decide +kernel
set_option maxRecDepth 65536 in
theorem w_named : about1.methodNamed? x = some theMethod := by decide +kernel
set_option maxRecDepth 65536 in
theorem w_hears : about1.hears theMethod below0 = true := by decide +kernel
set_option maxRecDepth 65536 in
theorem w_ripe : about1.ripe theMethod args0 below0 = true := by decide +kernel
theorem w_running : about1.status = .running := rfl
set_option maxRecDepth 65536 in
theorem w_room : about1.hasRoom e0.platform room_1 = true :=
  launch0.hasRoom_least _ room_1 (by decide +kernel) (by decide +kernel) (by decide +kernel) (by decide +kernel) (by decide +kernel) (by decide +kernel)
theorem allAtoms_all (ts : List Jvm.Cond) (a : Array Jvm.Value) (st : Jvm.State) : (allAtoms ts).before a st = ts.all (fun c => c.before a st) := by
  induction ts with
  | nil => rfl
  | cons c t ih =>
    show (Jvm.Cond.and c (allAtoms t)).before a st = _
    rw [Jvm.Cond.before_and, ih, List.all_cons]
def words1 : List Jvm.Cond := Jvm.Cond.code x code maxLocals ret :: tables_1
/-- a 'code' word, met by the world's own term for the bytes: nothing is compared byte by byte -/
theorem code_word {y : MethodName} {bytes : ByteArray} {mx : Nat} {rt : Option FieldType} {a : Array Value} {s : State} {m : MethodId} {meth : Method} {c : Code} (h1 : s.methodNamed? y = some m) (h2 : s.vm.method? m = some meth) (h3 : meth.code = some c) (h4 : c.code = bytes)
    (h5 : (c.maxLocals == mx && c.exceptionTable.isEmpty && decide (c.maxStack ≤ mostOperands) && decide (meth.sig.returnType = rt) && !meth.locks && decide (parseMethodDescriptor y.desc = some meth.sig)) = true) : (Jvm.Cond.code y bytes mx rt).before a s = true := by
  simp only [Bool.and_eq_true, beq_iff_eq, Bool.not_eq_true', decide_eq_true_eq] at h5
  obtain ⟨⟨⟨⟨⟨g1, g2⟩, g3⟩, g4⟩, g5⟩, g6⟩ := h5
  simp [Cond.before, Cond.holds, Cond.value, h1, h2, h3, h4, g1, g2, g3, g4, g5, g6]
def isCode : Jvm.Cond → Bool
  | .code _ _ _ _ => true
  | _ => false
theorem all_split {L : List Jvm.Cond} {P : Jvm.Cond → Bool} (h1 : L.all (fun c => isCode c || P c) = true) (h2 : ∀ c ∈ L.filter isCode, P c = true) : L.all P = true := by
  refine List.all_eq_true.mpr fun c hc => ?_
  have h := List.all_eq_true.mp h1 c hc
  rcases Bool.eq_false_or_eq_true (isCode c) with hi | hi
  · exact h2 c (List.mem_filter.mpr ⟨hc, hi⟩)
  · simpa [hi] using h
set_option maxRecDepth 65536 in
theorem w_c0 : (Jvm.Cond.code x code maxLocals ret).before args0 about1 = true := code_word (m := ⟨1, 2⟩) (meth := k1m2) (c := k1c2) (by decide +kernel) rfl rfl rfl (by decide +kernel)
set_option maxRecDepth 65536 in
theorem w_c1 : (Jvm.Cond.code ({ cls := "com/example/keyhole_limpet/keyholelimpet/OwnerIdentityClientIdOfPinLaw", name := "ch", desc := "(I)C" } : Jvm.MethodName) method_2_code (1 : Nat) (Option.some Jvm.ClassFile.FieldType.char)).before args0 about1 = true := code_word (m := ⟨1, 1⟩) (meth := k1m1) (c := k1c1) (by decide +kernel) rfl rfl rfl (by decide +kernel)
set_option maxRecDepth 65536 in
theorem w_c2 : (Jvm.Cond.code ({ cls := "java/lang/String", name := "<init>", desc := "([C)V" } : Jvm.MethodName) jdk_42_method_3_code (2 : Nat) (Option.none : Option Jvm.ClassFile.FieldType)).before args0 about1 = true := code_word (m := ⟨7, 1⟩) (meth := k7m1) (c := k7c1) (by decide +kernel) rfl rfl rfl (by decide +kernel)
set_option maxRecDepth 65536 in
theorem w_c3 : (Jvm.Cond.code ({ cls := "java/lang/String", name := "<init>", desc := "([CIILjava/lang/Void;)V" } : Jvm.MethodName) jdk_42_method_149_code (6 : Nat) (Option.none : Option Jvm.ClassFile.FieldType)).before args0 about1 = true := code_word (m := ⟨7, 7⟩) (meth := k7m7) (c := k7c7) (by decide +kernel) rfl rfl rfl (by decide +kernel)
set_option maxRecDepth 65536 in
theorem w_c4 : (Jvm.Cond.code ({ cls := "java/lang/Object", name := "<init>", desc := "()V" } : Jvm.MethodName) object_method_1_code (1 : Nat) (Option.none : Option Jvm.ClassFile.FieldType)).before args0 about1 = true := code_word (m := ⟨0, 0⟩) (meth := k0m0) (c := k0c0) (by decide +kernel) rfl rfl rfl (by decide +kernel)
set_option maxRecDepth 65536 in
theorem w_c5 : (Jvm.Cond.code ({ cls := "java/lang/StringUTF16", name := "compress", desc := "([CII)[B" } : Jvm.MethodName) jdk_52_method_16_code (6 : Nat) (Option.some (Jvm.ClassFile.FieldType.array Jvm.ClassFile.FieldType.byte))).before args0 about1 = true := code_word (m := ⟨8, 2⟩) (meth := k8m2) (c := k8c2) (by decide +kernel) rfl rfl rfl (by decide +kernel)
set_option maxRecDepth 65536 in
theorem w_c6 : (Jvm.Cond.code ({ cls := "java/lang/StringUTF16", name := "compress", desc := "([CI[BII)I" } : Jvm.MethodName) jdk_52_method_21_code (7 : Nat) (Option.some Jvm.ClassFile.FieldType.int)).before args0 about1 = true := code_word (m := ⟨8, 3⟩) (meth := k8m3) (c := k8c3) (by decide +kernel) rfl rfl rfl (by decide +kernel)
set_option maxRecDepth 65536 in
theorem w_c7 : (Jvm.Cond.code ({ cls := "java/lang/StringUTF16", name := "coderFromArrayLen", desc := "([BI)B" } : Jvm.MethodName) jdk_52_method_15_code (2 : Nat) (Option.some Jvm.ClassFile.FieldType.byte)).before args0 about1 = true := code_word (m := ⟨8, 1⟩) (meth := k8m1) (c := k8c1) (by decide +kernel) rfl rfl rfl (by decide +kernel)
set_option maxRecDepth 65536 in
theorem w_c8 : (Jvm.Cond.code ({ cls := "com/example/keyhole_limpet/keyholelimpet/OwnerIdentity", name := "clientIdOf", desc := "(Ljava/lang/String;)Ljava/lang/String;" } : Jvm.MethodName) prog_5_method_3_code (1 : Nat) (Option.some (Jvm.ClassFile.FieldType.object "java/lang/String"))).before args0 about1 = true := code_word (m := ⟨9, 1⟩) (meth := k9m1) (c := k9c1) (by decide +kernel) rfl rfl rfl (by decide +kernel)
set_option maxRecDepth 65536 in
theorem w_c9 : (Jvm.Cond.code ({ cls := "java/lang/String", name := "lastIndexOf", desc := "(I)I" } : Jvm.MethodName) jdk_42_method_82_code (2 : Nat) (Option.some Jvm.ClassFile.FieldType.int)).before args0 about1 = true := code_word (m := ⟨7, 4⟩) (meth := k7m4) (c := k7c4) (by decide +kernel) rfl rfl rfl (by decide +kernel)
set_option maxRecDepth 65536 in
theorem w_c10 : (Jvm.Cond.code ({ cls := "java/lang/String", name := "length", desc := "()I" } : Jvm.MethodName) jdk_42_method_54_code (1 : Nat) (Option.some Jvm.ClassFile.FieldType.int)).before args0 about1 = true := code_word (m := ⟨7, 2⟩) (meth := k7m2) (c := k7c2) (by decide +kernel) rfl rfl rfl (by decide +kernel)
set_option maxRecDepth 65536 in
theorem w_c11 : (Jvm.Cond.code ({ cls := "java/lang/String", name := "coder", desc := "()B" } : Jvm.MethodName) jdk_42_method_152_code (1 : Nat) (Option.some Jvm.ClassFile.FieldType.byte)).before args0 about1 = true := code_word (m := ⟨7, 9⟩) (meth := k7m9) (c := k7c9) (by decide +kernel) rfl rfl rfl (by decide +kernel)
set_option maxRecDepth 65536 in
theorem w_c12 : (Jvm.Cond.code ({ cls := "java/lang/String", name := "lastIndexOf", desc := "(II)I" } : Jvm.MethodName) jdk_42_method_83_code (3 : Nat) (Option.some Jvm.ClassFile.FieldType.int)).before args0 about1 = true := code_word (m := ⟨7, 5⟩) (meth := k7m5) (c := k7c5) (by decide +kernel) rfl rfl rfl (by decide +kernel)
set_option maxRecDepth 65536 in
theorem w_c13 : (Jvm.Cond.code ({ cls := "java/lang/String", name := "isLatin1", desc := "()Z" } : Jvm.MethodName) jdk_42_method_154_code (1 : Nat) (Option.some Jvm.ClassFile.FieldType.boolean)).before args0 about1 = true := code_word (m := ⟨7, 10⟩) (meth := k7m10) (c := k7c10) (by decide +kernel) rfl rfl rfl (by decide +kernel)
set_option maxRecDepth 65536 in
theorem w_c14 : (Jvm.Cond.code ({ cls := "java/lang/StringLatin1", name := "lastIndexOf", desc := "([BII)I" } : Jvm.MethodName) jdk_43_method_27_code (4 : Nat) (Option.some Jvm.ClassFile.FieldType.int)).before args0 about1 = true := code_word (m := ⟨10, 3⟩) (meth := k10m3) (c := k10c3) (by decide +kernel) rfl rfl rfl (by decide +kernel)
set_option maxRecDepth 65536 in
theorem w_c15 : (Jvm.Cond.code ({ cls := "java/lang/StringLatin1", name := "canEncode", desc := "(I)Z" } : Jvm.MethodName) jdk_43_method_4_code (1 : Nat) (Option.some Jvm.ClassFile.FieldType.boolean)).before args0 about1 = true := code_word (m := ⟨10, 2⟩) (meth := k10m2) (c := k10c2) (by decide +kernel) rfl rfl rfl (by decide +kernel)
set_option maxRecDepth 65536 in
theorem w_c16 : (Jvm.Cond.code ({ cls := "java/lang/Math", name := "min", desc := "(II)I" } : Jvm.MethodName) jdk_29_method_69_code (2 : Nat) (Option.some Jvm.ClassFile.FieldType.int)).before args0 about1 = true := code_word (m := ⟨11, 1⟩) (meth := k11m1) (c := k11c1) (by decide +kernel) rfl rfl rfl (by decide +kernel)
set_option maxRecDepth 65536 in
theorem w_c17 : (Jvm.Cond.code ({ cls := "java/lang/String", name := "substring", desc := "(II)Ljava/lang/String;" } : Jvm.MethodName) jdk_42_method_92_code (5 : Nat) (Option.some (Jvm.ClassFile.FieldType.object "java/lang/String"))).before args0 about1 = true := code_word (m := ⟨7, 6⟩) (meth := k7m6) (c := k7c6) (by decide +kernel) rfl rfl rfl (by decide +kernel)
set_option maxRecDepth 65536 in
theorem w_c18 : (Jvm.Cond.code ({ cls := "java/lang/String", name := "checkBoundsBeginEnd", desc := "(III)V" } : Jvm.MethodName) jdk_42_method_158_code (3 : Nat) (Option.none : Option Jvm.ClassFile.FieldType)).before args0 about1 = true := code_word (m := ⟨7, 12⟩) (meth := k7m12) (c := k7c12) (by decide +kernel) rfl rfl rfl (by decide +kernel)
set_option maxRecDepth 65536 in
theorem w_c19 : (Jvm.Cond.code ({ cls := "jdk/internal/util/Preconditions", name := "checkFromToIndex", desc := "(IIILjava/util/function/BiFunction;)I" } : Jvm.MethodName) jdk_41_method_12_code (4 : Nat) (Option.some Jvm.ClassFile.FieldType.int)).before args0 about1 = true := code_word (m := ⟨12, 2⟩) (meth := k12m2) (c := k12c2) (by decide +kernel) rfl rfl rfl (by decide +kernel)
set_option maxRecDepth 65536 in
theorem w_c20 : (Jvm.Cond.code ({ cls := "java/lang/StringLatin1", name := "newString", desc := "([BII)Ljava/lang/String;" } : Jvm.MethodName) jdk_43_method_47_code (3 : Nat) (Option.some (Jvm.ClassFile.FieldType.object "java/lang/String"))).before args0 about1 = true := code_word (m := ⟨10, 4⟩) (meth := k10m4) (c := k10c4) (by decide +kernel) rfl rfl rfl (by decide +kernel)
set_option maxRecDepth 65536 in
theorem w_c21 : (Jvm.Cond.code ({ cls := "java/util/Arrays", name := "copyOfRange", desc := "([BII)[B" } : Jvm.MethodName) jdk_65_method_132_code (3 : Nat) (Option.some (Jvm.ClassFile.FieldType.array Jvm.ClassFile.FieldType.byte))).before args0 about1 = true := code_word (m := ⟨13, 2⟩) (meth := k13m2) (c := k13c2) (by decide +kernel) rfl rfl rfl (by decide +kernel)
set_option maxRecDepth 65536 in
theorem w_c22 : (Jvm.Cond.code ({ cls := "java/util/Arrays", name := "copyOfRangeByte", desc := "([BII)[B" } : Jvm.MethodName) jdk_65_method_133_code (5 : Nat) (Option.some (Jvm.ClassFile.FieldType.array Jvm.ClassFile.FieldType.byte))).before args0 about1 = true := code_word (m := ⟨13, 3⟩) (meth := k13m3) (c := k13c3) (by decide +kernel) rfl rfl rfl (by decide +kernel)
set_option maxRecDepth 65536 in
theorem w_c23 : (Jvm.Cond.code ({ cls := "java/util/Arrays", name := "checkLength", desc := "(II)V" } : Jvm.MethodName) jdk_65_method_131_code (2 : Nat) (Option.none : Option Jvm.ClassFile.FieldType)).before args0 about1 = true := code_word (m := ⟨13, 1⟩) (meth := k13m1) (c := k13c1) (by decide +kernel) rfl rfl rfl (by decide +kernel)
set_option maxRecDepth 65536 in
theorem w_c24 : (Jvm.Cond.code ({ cls := "java/lang/String", name := "<init>", desc := "([BB)V" } : Jvm.MethodName) jdk_42_method_151_code (3 : Nat) (Option.none : Option Jvm.ClassFile.FieldType)).before args0 about1 = true := code_word (m := ⟨7, 8⟩) (meth := k7m8) (c := k7c8) (by decide +kernel) rfl rfl rfl (by decide +kernel)
set_option maxRecDepth 65536 in
theorem w_c25 : (Jvm.Cond.code ({ cls := "java/lang/String", name := "charAt", desc := "(I)C" } : Jvm.MethodName) jdk_42_method_56_code (2 : Nat) (Option.some Jvm.ClassFile.FieldType.char)).before args0 about1 = true := code_word (m := ⟨7, 3⟩) (meth := k7m3) (c := k7c3) (by decide +kernel) rfl rfl rfl (by decide +kernel)
set_option maxRecDepth 65536 in
theorem w_c26 : (Jvm.Cond.code ({ cls := "java/lang/StringLatin1", name := "charAt", desc := "([BI)C" } : Jvm.MethodName) jdk_43_method_2_code (2 : Nat) (Option.some Jvm.ClassFile.FieldType.char)).before args0 about1 = true := code_word (m := ⟨10, 1⟩) (meth := k10m1) (c := k10c1) (by decide +kernel) rfl rfl rfl (by decide +kernel)
set_option maxRecDepth 65536 in
theorem w_c27 : (Jvm.Cond.code ({ cls := "java/lang/String", name := "checkIndex", desc := "(II)V" } : Jvm.MethodName) jdk_42_method_155_code (2 : Nat) (Option.none : Option Jvm.ClassFile.FieldType)).before args0 about1 = true := code_word (m := ⟨7, 11⟩) (meth := k7m11) (c := k7c11) (by decide +kernel) rfl rfl rfl (by decide +kernel)
set_option maxRecDepth 65536 in
theorem w_c28 : (Jvm.Cond.code ({ cls := "jdk/internal/util/Preconditions", name := "checkIndex", desc := "(IILjava/util/function/BiFunction;)I" } : Jvm.MethodName) jdk_41_method_11_code (3 : Nat) (Option.some Jvm.ClassFile.FieldType.int)).before args0 about1 = true := code_word (m := ⟨12, 1⟩) (meth := k12m1) (c := k12c1) (by decide +kernel) rfl rfl rfl (by decide +kernel)
def codes1 : List Jvm.Cond := [Jvm.Cond.code x code maxLocals ret, Jvm.Cond.code ({ cls := "com/example/keyhole_limpet/keyholelimpet/OwnerIdentityClientIdOfPinLaw", name := "ch", desc := "(I)C" } : Jvm.MethodName) method_2_code (1 : Nat) (Option.some Jvm.ClassFile.FieldType.char), Jvm.Cond.code ({ cls := "java/lang/String", name := "<init>", desc := "([C)V" } : Jvm.MethodName) jdk_42_method_3_code (2 : Nat) (Option.none : Option Jvm.ClassFile.FieldType), Jvm.Cond.code ({ cls := "java/lang/String", name := "<init>", desc := "([CIILjava/lang/Void;)V" } : Jvm.MethodName) jdk_42_method_149_code (6 : Nat) (Option.none : Option Jvm.ClassFile.FieldType), Jvm.Cond.code ({ cls := "java/lang/Object", name := "<init>", desc := "()V" } : Jvm.MethodName) object_method_1_code (1 : Nat) (Option.none : Option Jvm.ClassFile.FieldType), Jvm.Cond.code ({ cls := "java/lang/StringUTF16", name := "compress", desc := "([CII)[B" } : Jvm.MethodName) jdk_52_method_16_code (6 : Nat) (Option.some (Jvm.ClassFile.FieldType.array Jvm.ClassFile.FieldType.byte)), Jvm.Cond.code ({ cls := "java/lang/StringUTF16", name := "compress", desc := "([CI[BII)I" } : Jvm.MethodName) jdk_52_method_21_code (7 : Nat) (Option.some Jvm.ClassFile.FieldType.int), Jvm.Cond.code ({ cls := "java/lang/StringUTF16", name := "coderFromArrayLen", desc := "([BI)B" } : Jvm.MethodName) jdk_52_method_15_code (2 : Nat) (Option.some Jvm.ClassFile.FieldType.byte), Jvm.Cond.code ({ cls := "com/example/keyhole_limpet/keyholelimpet/OwnerIdentity", name := "clientIdOf", desc := "(Ljava/lang/String;)Ljava/lang/String;" } : Jvm.MethodName) prog_5_method_3_code (1 : Nat) (Option.some (Jvm.ClassFile.FieldType.object "java/lang/String")), Jvm.Cond.code ({ cls := "java/lang/String", name := "lastIndexOf", desc := "(I)I" } : Jvm.MethodName) jdk_42_method_82_code (2 : Nat) (Option.some Jvm.ClassFile.FieldType.int), Jvm.Cond.code ({ cls := "java/lang/String", name := "length", desc := "()I" } : Jvm.MethodName) jdk_42_method_54_code (1 : Nat) (Option.some Jvm.ClassFile.FieldType.int), Jvm.Cond.code ({ cls := "java/lang/String", name := "coder", desc := "()B" } : Jvm.MethodName) jdk_42_method_152_code (1 : Nat) (Option.some Jvm.ClassFile.FieldType.byte), Jvm.Cond.code ({ cls := "java/lang/String", name := "lastIndexOf", desc := "(II)I" } : Jvm.MethodName) jdk_42_method_83_code (3 : Nat) (Option.some Jvm.ClassFile.FieldType.int), Jvm.Cond.code ({ cls := "java/lang/String", name := "isLatin1", desc := "()Z" } : Jvm.MethodName) jdk_42_method_154_code (1 : Nat) (Option.some Jvm.ClassFile.FieldType.boolean), Jvm.Cond.code ({ cls := "java/lang/StringLatin1", name := "lastIndexOf", desc := "([BII)I" } : Jvm.MethodName) jdk_43_method_27_code (4 : Nat) (Option.some Jvm.ClassFile.FieldType.int), Jvm.Cond.code ({ cls := "java/lang/StringLatin1", name := "canEncode", desc := "(I)Z" } : Jvm.MethodName) jdk_43_method_4_code (1 : Nat) (Option.some Jvm.ClassFile.FieldType.boolean), Jvm.Cond.code ({ cls := "java/lang/Math", name := "min", desc := "(II)I" } : Jvm.MethodName) jdk_29_method_69_code (2 : Nat) (Option.some Jvm.ClassFile.FieldType.int), Jvm.Cond.code ({ cls := "java/lang/String", name := "substring", desc := "(II)Ljava/lang/String;" } : Jvm.MethodName) jdk_42_method_92_code (5 : Nat) (Option.some (Jvm.ClassFile.FieldType.object "java/lang/String")), Jvm.Cond.code ({ cls := "java/lang/String", name := "checkBoundsBeginEnd", desc := "(III)V" } : Jvm.MethodName) jdk_42_method_158_code (3 : Nat) (Option.none : Option Jvm.ClassFile.FieldType), Jvm.Cond.code ({ cls := "jdk/internal/util/Preconditions", name := "checkFromToIndex", desc := "(IIILjava/util/function/BiFunction;)I" } : Jvm.MethodName) jdk_41_method_12_code (4 : Nat) (Option.some Jvm.ClassFile.FieldType.int), Jvm.Cond.code ({ cls := "java/lang/StringLatin1", name := "newString", desc := "([BII)Ljava/lang/String;" } : Jvm.MethodName) jdk_43_method_47_code (3 : Nat) (Option.some (Jvm.ClassFile.FieldType.object "java/lang/String")), Jvm.Cond.code ({ cls := "java/util/Arrays", name := "copyOfRange", desc := "([BII)[B" } : Jvm.MethodName) jdk_65_method_132_code (3 : Nat) (Option.some (Jvm.ClassFile.FieldType.array Jvm.ClassFile.FieldType.byte)), Jvm.Cond.code ({ cls := "java/util/Arrays", name := "copyOfRangeByte", desc := "([BII)[B" } : Jvm.MethodName) jdk_65_method_133_code (5 : Nat) (Option.some (Jvm.ClassFile.FieldType.array Jvm.ClassFile.FieldType.byte)), Jvm.Cond.code ({ cls := "java/util/Arrays", name := "checkLength", desc := "(II)V" } : Jvm.MethodName) jdk_65_method_131_code (2 : Nat) (Option.none : Option Jvm.ClassFile.FieldType), Jvm.Cond.code ({ cls := "java/lang/String", name := "<init>", desc := "([BB)V" } : Jvm.MethodName) jdk_42_method_151_code (3 : Nat) (Option.none : Option Jvm.ClassFile.FieldType), Jvm.Cond.code ({ cls := "java/lang/String", name := "charAt", desc := "(I)C" } : Jvm.MethodName) jdk_42_method_56_code (2 : Nat) (Option.some Jvm.ClassFile.FieldType.char), Jvm.Cond.code ({ cls := "java/lang/StringLatin1", name := "charAt", desc := "([BI)C" } : Jvm.MethodName) jdk_43_method_2_code (2 : Nat) (Option.some Jvm.ClassFile.FieldType.char), Jvm.Cond.code ({ cls := "java/lang/String", name := "checkIndex", desc := "(II)V" } : Jvm.MethodName) jdk_42_method_155_code (2 : Nat) (Option.none : Option Jvm.ClassFile.FieldType), Jvm.Cond.code ({ cls := "jdk/internal/util/Preconditions", name := "checkIndex", desc := "(IILjava/util/function/BiFunction;)I" } : Jvm.MethodName) jdk_41_method_11_code (3 : Nat) (Option.some Jvm.ClassFile.FieldType.int)]
set_option maxRecDepth 65536 in
theorem codes_eq : words1.filter isCode = codes1 := rfl
theorem w_codes : ∀ c ∈ words1.filter isCode, c.before args0 about1 = true := by
  rw [codes_eq]
  intro c hc
  simp only [codes1, List.mem_cons, List.not_mem_nil, or_false] at hc
  rcases hc with rfl | rfl | rfl | rfl | rfl | rfl | rfl | rfl | rfl | rfl | rfl | rfl | rfl | rfl | rfl | rfl | rfl | rfl | rfl | rfl | rfl | rfl | rfl | rfl | rfl | rfl | rfl | rfl | rfl
  · exact w_c0
  · exact w_c1
  · exact w_c2
  · exact w_c3
  · exact w_c4
  · exact w_c5
  · exact w_c6
  · exact w_c7
  · exact w_c8
  · exact w_c9
  · exact w_c10
  · exact w_c11
  · exact w_c12
  · exact w_c13
  · exact w_c14
  · exact w_c15
  · exact w_c16
  · exact w_c17
  · exact w_c18
  · exact w_c19
  · exact w_c20
  · exact w_c21
  · exact w_c22
  · exact w_c23
  · exact w_c24
  · exact w_c25
  · exact w_c26
  · exact w_c27
  · exact w_c28
set_option maxRecDepth 65536 in
theorem w_t1 : (words1.take 24).all (fun c => isCode c || c.before args0 about1) = true := by decide +kernel
set_option maxRecDepth 65536 in
theorem w_t2 : ((words1.drop 24).take 24).all (fun c => isCode c || c.before args0 about1) = true := by decide +kernel
set_option maxRecDepth 65536 in
theorem w_t3 : (((words1.drop 24).drop 24).take 24).all (fun c => isCode c || c.before args0 about1) = true := by decide +kernel
set_option maxRecDepth 65536 in
theorem w_t4 : ((((words1.drop 24).drop 24).drop 24).take 24).all (fun c => isCode c || c.before args0 about1) = true := by decide +kernel
set_option maxRecDepth 65536 in
theorem w_t5 : (((((words1.drop 24).drop 24).drop 24).drop 24).take 24).all (fun c => isCode c || c.before args0 about1) = true := by decide +kernel
set_option maxRecDepth 65536 in
theorem w_t6 : (((((words1.drop 24).drop 24).drop 24).drop 24).drop 24).all (fun c => isCode c || c.before args0 about1) = true := by decide +kernel
theorem w_tables : (allAtoms (Jvm.Cond.code x code maxLocals ret :: tables_1)).before args0 about1 = true := by
  rw [allAtoms_all]
  show words1.all (fun c => c.before args0 about1) = true
  refine all_split ?_ w_codes
  rw [← List.take_append_drop 24 words1, List.all_append, w_t1, ← List.take_append_drop 24 (words1.drop 24), List.all_append, w_t2, ← List.take_append_drop 24 ((words1.drop 24).drop 24), List.all_append, w_t3, ← List.take_append_drop 24 (((words1.drop 24).drop 24).drop 24), List.all_append, w_t4, ← List.take_append_drop 24 ((((words1.drop 24).drop 24).drop 24).drop 24), List.all_append, w_t5, w_t6]
  rfl
set_option maxRecDepth 65536 in
theorem w_rest : rest_1_c.before args0 about1 = true := by decide +kernel
set_option maxRecDepth 65536 in
theorem w_case : (Jvm.Cond.and given_1 narrow_1).before args0 about1 = true := by decide +kernel
set_option maxRecDepth 65536 in
theorem w_consts : constsHeld consts_1 about1 := Jvm.Lit.constsHeldB_iff.mp (by decide +kernel)
theorem w_applies : (headSpec (Jvm.Cond.code x code maxLocals ret :: tables_1) room_1).applies x e0.platform about1 = true :=
  (Spec.applies_iff w_frames).mpr ⟨w_running, w_runnable, w_alone, w_named, w_hears, w_ripe, w_room, w_tables⟩
theorem atStart : AtStart classFile x code maxLocals ret World_1 tables_1 room_1 Calls_1 rest_1 Pre_1 launch0 p0 e0 about1 theMethod args0 below0 :=
  ⟨lists_1, trivial, launch0.admits_env _ _ _, launch0.least_env, fairChoices_fair.cas, fairChoices_fair.clock, w_frames, w_args, w_heap, w_applies, ⟨w_consts, trivial⟩, w_rest, w_case⟩
end start1
theorem witness_1 : WitnessClaimed_1 := ⟨start1.p0, start1.e0, start1.about1, start1.theMethod, start1.args0, start1.below0, start1.atStart⟩
end Jvm.Pilot.@@N@@
