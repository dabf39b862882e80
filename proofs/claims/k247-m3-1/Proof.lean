import JvmDerived
import JvmDerived.Pilot.@@N@@Statement
import JvmDerived.Pilot.@@N@@Code
set_option linter.unusedVariables false
set_option linter.unusedSimpArgs false
namespace Jvm.RoadKit
open Sem ClassFile Op Lib Jvm.Stand Jvm.Free Jvm.LawKit
section New
variable {p : Program} {l : Launch} {e : Env} {R : Room} {s : State} {m : MethodId} {args : Array Value} {below : List Frame} {meth : Method} {c : Code} {T : State} {locs : List Loc} {cells slots : Nat}
theorem retI (X : Stand p l e R s m args below meth c T locs cells slots) (hx : p.tables.exec = Jvm.exec) {pc : Nat} {Ls : Array Slot} {z : Int32} {rest : List Value} (hret : meth.sig.returnType = some .int) (hd : decode c.code pc = .ok (.ireturn, 1)) {fs : List Frame}
    (hl : ∀ (f : JFrame) (acts : List Action), f.method = m → f.locked = none → f.entered = [] → (doReturn e (T.setTop f) acts (some (.int z))).1 = T.setFrames fs) : Steps p.tables e below (T.setTop (mkF m pc Ls (.int z :: rest))) (T.setFrames fs) := by
  have hm' : T.vm.method? m = some meth := X.method'
  have hn : narrow .int (.int z) = .int z := rfl
  show Steps p.tables e below (T.setTop { method := m, pc := pc, locals := Ls, stack := _ :: rest, locked := none }) _
  jvm_step X.here [X.here.top, hx, hd, hm', hret, hn]
  first | (intro acts; rw [hl _ acts rfl rfl rfl]) | rw [hl _ _ rfl rfl rfl]
  exact Steps.refl _
end New
end Jvm.RoadKit
namespace Jvm.Pilot.@@N@@
open Jvm Jvm.ClassFile Sem Op Lib Jvm.Free Jvm.Stand Jvm.LawKit Jvm.RoadKit Bundle Jvm.Pilot.@@N@@.Jvm.D
section OwnWalk
variable {p : Program} {l : Launch} {e : Env} {R : Room} {s : State} {m : MethodId} {args : Array Value} {below : List Frame} {meth : Method} {c : Code} {T : State} {locs : List Loc} {cells slots : Nat} {Z : State} {a0 : Array Value} {h h0 : Heap}
variable {tb : Tables} {Post : Outcome → State → Prop} {Q : Option Value → Heap → List Loc → Prop} {k j : Nat}
/-- the run from here comes to its end, and there Post holds -/
def own_Ends (tb : Tables) (e : Env) (below : List Frame) (Post : Outcome → State → Prop) (A : State) : Prop := ∃ U o, Steps tb e below A U ∧ U.status = .running ∧ Ended U below o ∧ Post o U
theorem own_via {A : State} (B : State) (h : ∀ t, Steps tb e below B t → Steps tb e below A t) (k : own_Ends tb e below Post B) : own_Ends tb e below Post A := by
  obtain ⟨U, o, h1, h2⟩ := k; exact ⟨U, o, h _ h1, h2⟩
def own_Post (s : State) (Q : Option Value → Heap → List Loc → Prop) (k j : Nat) : Outcome → State → Prop := fun o U => ∃ v L, o = .returned v ∧ Q v U.heap L ∧ FrameEnd s o U L k j
/-- a method's contract: called with as at the heap h0 it returns, and Q holds of what it returned, of the heap and of the places written -/
def own_CT (l : Launch) (Z : State) (y : MethodName) (bytes : ByteArray) (maxL : Nat) (ret : Option FieldType) (rm : Room) (as : Array Value) (h0 : Heap) (Q : Option Value → Heap → List Loc → Prop) : Prop :=
  ∀ ws : List Jvm.Cond, MetFree l y (head1 (Jvm.Cond.code y bytes maxL ret :: ws) rm) (fun a U => a = as ∧ Z.Warmed39 U.vm ∧ U.heap = h0) (fun _ _ _ _ _ => True) (fun _ U o U' => ∃ v L, o = .returned v ∧ Q v U'.heap L ∧ FrameEnd U o U' L rm.cells rm.slots)
theorem own_of {y : MethodName} {bytes : ByteArray} {maxL : Nat} {ret : Option FieldType} {rm : Room} {as : Array Value} {Ls : Array Slot} (hx : plainFor y = true) (hef : ∀ m, entryFrame m as maxL = mkF m 0 Ls [])
    (body : ∀ p e s m below meth c T, Stand p l e rm s m as below meth c T [] 0 0 → p.tables.exec = Jvm.exec → c.code = bytes → c.maxLocals = maxL → s.vm.findClass y.cls = some m.cls → meth.name = y.name → meth.sig.returnType = ret → Z.Warmed39 s.vm → T.heap = h0 → meth.locks = false →
      own_Ends p.tables e below (own_Post s Q rm.cells rm.slots) (T.setTop (mkF m 0 Ls []))) : own_CT l Z y bytes maxL ret rm as h0 Q := by
  intro ws
  refine MetFree.of_bodySF hx hisR ?_
  intro p e s m args below meth c s₁ Bd hml0 hP hK
  obtain ⟨rfl, hZ, hh⟩ := hP
  have e0 : s₁.heap = h0 := by rw [← hh, Bd.state]; rfl
  obtain ⟨U, o, h1, h2, h3, h4⟩ := body p e s m below meth c s₁ (Stand.of_body Bd) Bd.exec Bd.bytes hml0 (findClass_of_methodNamed Bd.named) (name_of_methodNamed Bd.named Bd.method).1 Bd.returns hZ e0 Bd.notSynchronized
  exact ⟨U, o, castTop (hef m) h1, h2, h3, h4⟩
/-- the same for a body beneath which a stack trace is filled in: the tables' methods and the frames beneath are known -/
def own_CTK (l : Launch) (Z : State) (y : MethodName) (bytes : ByteArray) (maxL : Nat) (ret : Option FieldType) (rm : Room) (as : Array Value) (h0 : Heap) (Q : Option Value → Heap → List Loc → Prop) : Prop :=
  ∀ ws : List Jvm.Cond, MetFree l y (head1 (Jvm.Cond.code y bytes maxL ret :: ws) rm) (fun a U => a = as ∧ Z.Warmed39 U.vm ∧ U.heap = h0) (fun _ _ bl s _ => s.vm.MethodsKnown ∧ s.vm.FramesKnown bl) (fun _ U o U' => ∃ v L, o = .returned v ∧ Q v U'.heap L ∧ FrameEnd U o U' L rm.cells rm.slots)
theorem own_ofK {y : MethodName} {bytes : ByteArray} {maxL : Nat} {ret : Option FieldType} {rm : Room} {as : Array Value} {Ls : Array Slot} (hx : plainFor y = true) (hef : ∀ m, entryFrame m as maxL = mkF m 0 Ls [])
    (body : ∀ p e s m below meth c T, Stand p l e rm s m as below meth c T [] 0 0 → p.tables.exec = Jvm.exec → c.code = bytes → c.maxLocals = maxL → s.vm.findClass y.cls = some m.cls → meth.name = y.name → meth.sig.returnType = ret → Z.Warmed39 s.vm → T.heap = h0 → meth.locks = false → s.heap = h0 → s.vm.MethodsKnown → s.vm.FramesKnown below →
      own_Ends p.tables e below (own_Post s Q rm.cells rm.slots) (T.setTop (mkF m 0 Ls []))) : own_CTK l Z y bytes maxL ret rm as h0 Q := by
  intro ws
  refine MetFree.of_bodySF hx hisR ?_
  intro p e s m args below meth c s₁ Bd hml0 hP hK
  obtain ⟨rfl, hZ, hh⟩ := hP
  have e0 : s₁.heap = h0 := by rw [← hh, Bd.state]; rfl
  obtain ⟨U, o, h1, h2, h3, h4⟩ := body p e s m below meth c s₁ (Stand.of_body Bd) Bd.exec Bd.bytes hml0 (findClass_of_methodNamed Bd.named) (name_of_methodNamed Bd.named Bd.method).1 Bd.returns hZ e0 Bd.notSynchronized hh hK.1 hK.2
  exact ⟨U, o, castTop (hef m) h1, h2, h3, h4⟩
theorem own_retI (X : Stand p l e R s m args below meth c T locs cells slots) (hx : p.tables.exec = Jvm.exec) (hlk : meth.locks = false) {pc : Nat} {Ls : Array Slot} {z : Int32} {rest : List Value} (hret : meth.sig.returnType = some .int) (hd : decode c.code pc = .ok (.ireturn, 1))
    (eT : T.heap = h) (q : Q (some (.int z)) h locs) (hc : cells ≤ k) (hs : slots ≤ j) : own_Ends p.tables e below (own_Post s Q k j) (T.setTop (mkF m pc Ls (.int z :: rest))) := by
  obtain ⟨fs, hr, hrun, hended, hW, hsame⟩ := X.leave (v := some (.int z)) (fun h => by rw [hret] at h; cases h)
  subst eT
  exact ⟨_, _, retI X hx hret hd hr, hrun, hended, _, _, rfl, q, ⟨_, rfl⟩, hW, hsame.mono hc hs⟩
theorem own_retN (X : Stand p l e R s m args below meth c T locs cells slots) (hx : p.tables.exec = Jvm.exec) (hlk : meth.locks = false) {pc : Nat} {Ls : Array Slot} {z : Int32} {t : FieldType} {rest : List Value} (hret : meth.sig.returnType = some t) (ht : t = .boolean ∨ t = .byte ∨ t = .char ∨ t = .short) (hd : decode c.code pc = .ok (.ireturn, 1))
    (eT : T.heap = h) (q : Q (some (.int (nar t z))) h locs) (hc : cells ≤ k) (hs : slots ≤ j) : own_Ends p.tables e below (own_Post s Q k j) (T.setTop (mkF m pc Ls (.int z :: rest))) := by
  obtain ⟨fs, hr, hrun, hended, hW, hsame⟩ := X.leave (v := some (.int (nar t z))) (fun h => by rw [hret] at h; cases h)
  subst eT
  exact ⟨_, _, retN X hx hret ht hd hr, hrun, hended, _, _, rfl, q, ⟨_, rfl⟩, hW, hsame.mono hc hs⟩
theorem own_retA (X : Stand p l e R s m args below meth c T locs cells slots) (hx : p.tables.exec = Jvm.exec) (hlk : meth.locks = false) {pc : Nat} {Ls : Array Slot} {w : Value} {t : FieldType} {rest : List Value} (hret : meth.sig.returnType = some t) (ht : t.isReference = true) (hw : w.isRef = true) (hd : decode c.code pc = .ok (.areturn, 1))
    (eT : T.heap = h) (q : Q (some w) h locs) (hc : cells ≤ k) (hs : slots ≤ j) : own_Ends p.tables e below (own_Post s Q k j) (T.setTop (mkF m pc Ls (w :: rest))) := by
  obtain ⟨fs, hr, hrun, hended, hW, hsame⟩ := X.leave (v := some w) (fun h => by rw [hret] at h; cases h)
  subst eT
  have hn : narrow t w = w := by cases t <;> first | (cases ht; done) | (rcases ref_cases hw with rfl | ⟨_, rfl⟩ <;> rfl)
  exact ⟨_, _, retOut X hx hret hn (Or.inr (Or.inr (Or.inr (Or.inr ⟨rfl, ht, hw⟩)))) hd hr, hrun, hended, _, _, rfl, q, ⟨_, rfl⟩, hW, hsame.mono hc hs⟩
theorem own_retJ (X : Stand p l e R s m args below meth c T locs cells slots) (hx : p.tables.exec = Jvm.exec) (hlk : meth.locks = false) {pc : Nat} {Ls : Array Slot} {z : Int64} {rest : List Value} (hret : meth.sig.returnType = some .long) (hd : decode c.code pc = .ok (.lreturn, 1))
    (eT : T.heap = h) (q : Q (some (.long z)) h locs) (hc : cells ≤ k) (hs : slots ≤ j) : own_Ends p.tables e below (own_Post s Q k j) (T.setTop (mkF m pc Ls (.long z :: rest))) := by
  obtain ⟨fs, hr, hrun, hended, hW, hsame⟩ := X.leave (v := some (.long z)) (fun h => by rw [hret] at h; cases h)
  subst eT
  exact ⟨_, _, retOut X hx hret rfl (Or.inr (Or.inl ⟨rfl, rfl, _, rfl⟩)) hd hr, hrun, hended, _, _, rfl, q, ⟨_, rfl⟩, hW, hsame.mono hc hs⟩
theorem own_ret0 (X : Stand p l e R s m args below meth c T locs cells slots) (hx : p.tables.exec = Jvm.exec) (hlk : meth.locks = false) {pc : Nat} {Ls : Array Slot} (hret : meth.sig.returnType = none) (hd : decode c.code pc = .ok (.return_, 1))
    (eT : T.heap = h) (q : Q none h locs) (hc : cells ≤ k) (hs : slots ≤ j) : own_Ends p.tables e below (own_Post s Q k j) (T.setTop (mkF m pc Ls [])) := by
  obtain ⟨fs, hr, hrun, hended, hW, hsame⟩ := X.leave (v := none) (fun _ => rfl)
  subst eT
  exact ⟨_, _, X.returnOut hx hret hd hr, hrun, hended, _, _, rfl, q, ⟨_, rfl⟩, hW, hsame.mono hc hs⟩
theorem own_cat1 {v : Value} (h : v.isRef = true) : v.category = 1 := XT.cat1 h
theorem own_narR {v : Value} {t : FieldType} (ht : t.isReference = true) (h : v.isRef = true) : narrow t v = v := by cases t <;> first | (cases ht; done) | (rcases ref_cases h with rfl | ⟨_, rfl⟩ <;> rfl)
theorem own_fitR {v : Value} {t : FieldType} (ht : t.isReference = true) (h : v.isRef = true) : fits t v = true := by cases t <;> first | (cases ht; done) | (rcases ref_cases h with rfl | ⟨_, rfl⟩ <;> rfl)
theorem own_and255 (x : Int32) : ¬ nar .char ((x &&& (255 : Int32)).toUInt32.toUInt16.toUInt32.toInt32) < 0 ∧ ¬ (255 : Int32) < nar .char ((x &&& (255 : Int32)).toUInt32.toUInt16.toUInt32.toInt32) := by
  have t : ∀ k : Fin 256, ¬ nar .char ((Int32.ofNat k.val).toUInt32.toUInt16.toUInt32.toInt32) < 0 ∧ ¬ (255 : Int32) < nar .char ((Int32.ofNat k.val).toUInt32.toUInt16.toUInt32.toInt32) := by decide +kernel
  have h : (x &&& 255).toBitVec.toNat < 256 := by
    simp only [Int32.toBitVec_and, BitVec.toNat_and]
    exact Nat.lt_succ_of_le Nat.and_le_right
  have e : (x &&& 255) = Int32.ofNat (x &&& 255).toBitVec.toNat := by
    apply Int32.toBitVec_inj.mp
    show _ = BitVec.ofNat 32 _
    rw [BitVec.ofNat_toNat]; simp
  rw [e]
  exact t ⟨_, h⟩
/-- what pays a call: the shape of the library's backOf -/
abbrev own_BK (l : Launch) (R : Room) (p : Program) (e : Env) (below : List Frame) (s : State) (args : Array Value) (y : MethodName) (len W : Nat) (as : Array Value) (h : Heap) (k j : Nat) (Q : Option Value → Heap → List Loc → Prop) : Prop :=
  Back l R p e below s args y len W (fun A a => a = as ∧ A.U.heap = h ∧ A.cells + k ≤ R.cells ∧ A.slots + j ≤ R.slots) (fun A _ v B => ∃ L, Q v B.U.heap L ∧ B.locs = A.locs ++ L ∧ B.cells = A.cells + k ∧ B.slots = A.slots + j)
theorem own_bk {y : MethodName} {bytes : ByteArray} {maxL : Nat} {ret : Option FieldType} {rm : Room} {len W : Nat} {as : Array Value} (C : own_CT l Z y bytes maxL ret rm as h Q) (hZ : Z.Warmed39 s.vm) (wc : (Jvm.Cond.code y bytes maxL ret).before a0 Z = true) (wz : (Jvm.Cond.initialized y.cls).before a0 Z = true)
    (hf : rm.frames + 1 ≤ R.frames) (hl : W + (maxL + 11) + rm.locals ≤ R.locals) : own_BK l R p e below s args y len W as h rm.cells rm.slots Q := backOf (C []) hZ wc wz hf hl
theorem own_bkK {y : MethodName} {bytes : ByteArray} {maxL : Nat} {ret : Option FieldType} {rm : Room} {len W : Nat} {as : Array Value} (C : own_CTK l Z y bytes maxL ret rm as h Q) (hZ : Z.Warmed39 s.vm) (wc : (Jvm.Cond.code y bytes maxL ret).before a0 Z = true) (wz : (Jvm.Cond.initialized y.cls).before a0 Z = true)
    (hf : rm.frames + 1 ≤ R.frames) (hl : W + (maxL + 11) + rm.locals ≤ R.locals) (hTK : s.vm.MethodsKnown) (hBelow : s.vm.FramesKnown below) : own_BK l R p e below s args y len W as h rm.cells rm.slots Q := backOfKL (C []) hZ wc wz hf hl hTK hBelow
theorem own_cS (X : Stand p l e R s m args below meth c T locs cells slots) (hx : p.tables.exec = Jvm.exec) (hZ : Z.Warmed39 s.vm) {own : String} {index : Nat} {y : MethodName} {bytes : ByteArray} {maxL : Nat} {ret : Option FieldType} (hown : s.vm.findClass own = some m.cls)
    (w1 : (Jvm.Cond.methodLink own index y).before a0 Z = true) (w2 : (Jvm.Cond.static y).before a0 Z = true) (w3 : (Jvm.Cond.initialized y.cls).before a0 Z = true) (w4 : (Jvm.Cond.code y bytes maxL ret).before a0 Z = true) (hy : y.cls ≠ "java/lang/invoke/MethodHandle" ∧ y.cls ≠ "java/lang/invoke/VarHandle")
    {W : Nat} {as : Array Value} (K : own_BK l R p e below s args y 3 W as h k j Q) (eT : T.heap = h) {pc : Nat} {Ls : Array Slot} (hsize : Ls.size = c.maxLocals) {argsL rest st : List Value} (has : argsL.toArray = as) (hlen : ∀ sig, parseMethodDescriptor y.desc = some sig → argsL.length = sig.parameters.length) (hs : st = argsL.reverse ++ rest) (hW : (rest.map fun v => v.category).sum ≤ W)
    (hd : decode c.code pc = .ok (.invokestatic index, 3)) (hk : cells + k ≤ R.cells) (hj : slots + j ≤ R.slots) :
    ∃ (v : Option Value) (T' : State) (h' : Heap) (L : List Loc), Stand p l e R s m args below meth c T' (locs ++ L) (cells + k) (slots + j) ∧ T'.heap = h' ∧ Q v h' L ∧ ∀ t, Steps p.tables e below (T'.setTop (mkF m (pc + 3) Ls (v.toList ++ rest))) t → Steps p.tables e below (T.setTop (mkF m pc Ls st)) t := by
  subst hs
  obtain ⟨v, vm₁, ⟨T', L', k', n'⟩, -, X', ⟨L, hQ, hl, hy', hz⟩, stp⟩ := Jvm.LawKit.callS X hx hown (mvT hZ w1) (mvT hZ w2) (mvT hZ w3) (mvT hZ w4) hy K (g := mkF m pc Ls (argsL.reverse ++ rest)) rfl hsize (argsL := argsL) (rest := rest) hlen rfl (by show 2 * 0 + _ ≤ _; rw [Nat.mul_zero, Nat.zero_add]; exact hW) hd (fun _ _ => ⟨has, eT, hk, hj⟩)
  dsimp only [Pt.U, Pt.locs, Pt.cells, Pt.slots] at X' hQ hl hy' hz stp
  subst hl hy' hz
  exact ⟨v, T', _, L, X', rfl, hQ, stp⟩
theorem own_cI (X : Stand p l e R s m args below meth c T locs cells slots) (hx : p.tables.exec = Jvm.exec) (hZ : Z.Warmed39 s.vm) {own : String} {index : Nat} {y : MethodName} {bytes : ByteArray} {maxL : Nat} (hown : s.vm.findClass own = some m.cls)
    (w1 : (Jvm.Cond.methodLink own index y).before a0 Z = true) (w2 : (Jvm.Cond.instanceMethod y).before a0 Z = true) (w4 : (Jvm.Cond.code y bytes maxL none).before a0 Z = true) (hy1 : y.name = "<init>") (hy : y.cls ≠ "java/lang/invoke/MethodHandle" ∧ y.cls ≠ "java/lang/invoke/VarHandle")
    {W : Nat} {as : Array Value} (K : own_BK l R p e below s args y 3 W as h k j Q) (eT : T.heap = h) {pc : Nat} {Ls : Array Slot} (hsize : Ls.size = c.maxLocals) {a : Addr} {argsL rest st : List Value} (has : (Value.ref a :: argsL).toArray = as) (hlen : ∀ sig, parseMethodDescriptor y.desc = some sig → argsL.length = sig.parameters.length) (hs : st = argsL.reverse ++ .ref a :: rest) (hW : (rest.map fun v => v.category).sum ≤ W)
    (hd : decode c.code pc = .ok (.invokespecial index, 3)) (hk : cells + k ≤ R.cells) (hj : slots + j ≤ R.slots) :
    ∃ (v : Option Value) (T' : State) (h' : Heap) (L : List Loc), Stand p l e R s m args below meth c T' (locs ++ L) (cells + k) (slots + j) ∧ T'.heap = h' ∧ Q v h' L ∧ ∀ t, Steps p.tables e below (T'.setTop (mkF m (pc + 3) Ls (v.toList ++ rest))) t → Steps p.tables e below (T.setTop (mkF m pc Ls st)) t := by
  subst hs
  obtain ⟨v, vm₁, ⟨T', L', k', n'⟩, -, X', ⟨L, hQ, hl, hy', hz⟩, stp⟩ := X.specialBack hx hy1 hown (mvT hZ w1) (mvT hZ w2) (mvT hZ w4) hy K (g := mkF m pc Ls (argsL.reverse ++ .ref a :: rest)) rfl hsize (Steps.refl _) (a := a) (argsL := argsL) (rest := rest) hlen rfl (by show 2 * 0 + _ ≤ _; rw [Nat.mul_zero, Nat.zero_add]; exact hW) hd (fun _ _ => ⟨has, eT, hk, hj⟩)
  dsimp only [Pt.U, Pt.locs, Pt.cells, Pt.slots] at X' hQ hl hy' hz stp
  subst hl hy' hz
  exact ⟨v, T', _, L, X', rfl, hQ, fun t => stp.trans⟩
theorem own_cV (X : Stand p l e R s m args below meth c T locs cells slots) (hx : p.tables.exec = Jvm.exec) (hZ : Z.Warmed39 s.vm) {own C : String} {index : Nat} {y z : MethodName} (hown : s.vm.findClass own = some m.cls)
    (w1 : (Jvm.Cond.methodLink own index y).before a0 Z = true) (w2 : (Jvm.Cond.declares y).before a0 Z = true) (nf : NotFace s y) (w3 : (Jvm.Cond.selects C y z).before a0 Z = true) (w4 : (Jvm.Cond.instanceMethod z).before a0 Z = true) (hy : y.cls ≠ "java/lang/invoke/MethodHandle" ∧ y.cls ≠ "java/lang/invoke/VarHandle")
    {W : Nat} {as : Array Value} (K : own_BK l R p e below s args z 3 W as h k j Q) (eT : T.heap = h) {a : Addr} (E : Exa Z h a C) {pc : Nat} {Ls : Array Slot} (hsize : Ls.size = c.maxLocals) {argsL rest st : List Value} (has : (Value.ref a :: argsL).toArray = as) (hlen : ∀ sig, parseMethodDescriptor y.desc = some sig → argsL.length = sig.parameters.length) (hs : st = argsL.reverse ++ .ref a :: rest) (hW : (rest.map fun v => v.category).sum ≤ W)
    (hd : decode c.code pc = .ok (.invokevirtual index, 3)) (hk : cells + k ≤ R.cells) (hj : slots + j ≤ R.slots) :
    ∃ (v : Option Value) (T' : State) (h' : Heap) (L : List Loc), Stand p l e R s m args below meth c T' (locs ++ L) (cells + k) (slots + j) ∧ T'.heap = h' ∧ Q v h' L ∧ ∀ t, Steps p.tables e below (T'.setTop (mkF m (pc + 3) Ls (v.toList ++ rest))) t → Steps p.tables e below (T.setTop (mkF m pc Ls st)) t := by
  subst hs
  obtain ⟨cq, kq, qa, qb, qc⟩ := isOf hZ eT E
  obtain ⟨v, vm₁, ⟨T', L', k', n'⟩, -, X', ⟨L, hQ, hl, hy', hz⟩, stp⟩ := X.virtualBack hx (y := y) (z := z) hown (mvT hZ w1) (mvT hZ w2) nf (mvT hZ w3) (mvT hZ w4) hy K qa qc (g := mkF m pc Ls (argsL.reverse ++ .ref a :: rest)) rfl hsize (Steps.refl _) (argsL := argsL) (rest := rest) hlen rfl (by show 2 * 0 + _ ≤ _; rw [Nat.mul_zero, Nat.zero_add]; exact hW) hd (fun _ _ => ⟨has, eT, hk, hj⟩)
  dsimp only [Pt.U, Pt.locs, Pt.cells, Pt.slots] at X' hQ hl hy' hz stp
  subst hl hy' hz
  exact ⟨v, T', _, L, X', rfl, hQ, fun t => stp.trans⟩
theorem own_cF (X : Stand p l e R s m args below meth c T locs cells slots) (hx : p.tables.exec = Jvm.exec) (hZ : Z.Warmed39 s.vm) {own C : String} {index count : Nat} {xi y : MethodName} (hown : s.vm.findClass own = some m.cls)
    (w1 : (Jvm.Cond.methodLink own index xi).before a0 Z = true) (w2 : (Jvm.Cond.declares xi).before a0 Z = true) (w3 : (Jvm.Cond.interfaceMethod xi.cls xi.cls xi.name xi.desc).before a0 Z = true) (w4 : (Jvm.Cond.selects C xi y).before a0 Z = true) (w5 : (Jvm.Cond.instanceMethod y).before a0 Z = true) (w6 : (Jvm.Cond.publicMethod y).before a0 Z = true) (w7 : (Jvm.Cond.unhidden C xi.name xi.desc).before a0 Z = true) (w8 : (Jvm.Cond.castable C xi.cls).before a0 Z = true) (hy : xi.cls ≠ "java/lang/invoke/MethodHandle" ∧ xi.cls ≠ "java/lang/invoke/VarHandle")
    {W : Nat} {as : Array Value} (K : own_BK l R p e below s args y 5 W as h k j Q) (eT : T.heap = h) {a : Addr} (E : Exa Z h a C) {pc : Nat} {Ls : Array Slot} (hsize : Ls.size = c.maxLocals) {argsL rest st : List Value} (has : (Value.ref a :: argsL).toArray = as) (hlen : ∀ sig, parseMethodDescriptor xi.desc = some sig → argsL.length = sig.parameters.length) (hs : st = argsL.reverse ++ .ref a :: rest) (hW : (rest.map fun v => v.category).sum ≤ W)
    (hd : decode c.code pc = .ok (.invokeinterface index count, 5)) (hk : cells + k ≤ R.cells) (hj : slots + j ≤ R.slots) :
    ∃ (v : Option Value) (T' : State) (h' : Heap) (L : List Loc), Stand p l e R s m args below meth c T' (locs ++ L) (cells + k) (slots + j) ∧ T'.heap = h' ∧ Q v h' L ∧ ∀ t, Steps p.tables e below (T'.setTop (mkF m (pc + 5) Ls (v.toList ++ rest))) t → Steps p.tables e below (T.setTop (mkF m pc Ls st)) t := by
  subst hs
  obtain ⟨cq, kq, qa, qb, qc⟩ := isOf hZ eT E
  obtain ⟨v, vm₁, ⟨T', L', k', n'⟩, -, X', ⟨L, hQ, hl, hy', hz⟩, stp⟩ := X.interfaceBack hx (xi := xi) (y := y) hown (mvT hZ w1) (mvT hZ w2) (mvT hZ w3 (by simp [Cond.onTables, Cond.keepsFace, Cond.keeps, Cond.steady, Cond.faceAtom, hy.1, hy.2])) (mvT hZ w4) (mvT hZ w5) (mvT hZ w6) (mvT hZ w7) (mvT hZ w8) hy K qa qb qc (g := mkF m pc Ls (argsL.reverse ++ .ref a :: rest)) rfl hsize (Steps.refl _) (argsL := argsL) (rest := rest) hlen rfl (by show 2 * 0 + _ ≤ _; rw [Nat.mul_zero, Nat.zero_add]; exact hW) hd (fun _ _ => ⟨has, eT, hk, hj⟩)
  dsimp only [Pt.U, Pt.locs, Pt.cells, Pt.slots] at X' hQ hl hy' hz stp
  subst hl hy' hz
  exact ⟨v, T', _, L, X', rfl, hQ, fun t => stp.trans⟩
end OwnWalk
end Jvm.Pilot.@@N@@
/- laws to paste: Road.backV (cut by pick.py; bodies as the Statement names them) -/
namespace Jvm.Pilot.@@N@@
namespace StrChars
open Jvm Sem ClassFile Op Lib Jvm.Stand Jvm.Free.XT Jvm.Free.ALB Jvm.Free.JM Jvm.Free
open Jvm.Lib.Cold (StaticIs)
/-- a char array whose places are chars -/
def Ch (a : Addr) (A : Cell) (U : State) : Prop := Arr .char a A U ∧ Typed .char A
theorem Ch.mv {a : Addr} {A : Cell} {U U' : State} (h : Ch a A U) (hal : U.vm.Alike U'.vm) (hh : U'.heap = U.heap) : Ch a A U' := ⟨h.1.mv hal hh, h.2⟩
theorem Ch.keep {a : Addr} {A : Cell} {U U' : State} (h : Ch a A U) (hal : U.vm.Alike U'.vm) (hk : U'.heap[a]? = some A) : Ch a A U' := ⟨h.1.keep hal hk, h.2⟩
/-- what place i of a char[]'s cell holds -/
def cv (A : Cell) (i : Nat) : Int32 := match A.slots[i]? with | some (.int x) => x | _ => 0
theorem Ch.get {a : Addr} {A : Cell} {U : State} (h : Ch a A U) {i : Nat} (hi : i < A.slots.size) : A.slots[i]? = some (.int (cv A i)) := by
  have e := Array.getElem?_eq_getElem hi
  have f := h.2 i _ e
  unfold cv; rw [e]
  generalize A.slots[i] = v at f
  cases v <;> simp [fits] at f ⊢
/-- the byte that i2b leaves of a char -/
def lo8 (x : Int32) : Int32 := x.toInt8.toInt32
theorem fits_lo8 (y : Int32) : fits .byte (.int (lo8 y)) = true := by
  have h1 := y.toInt8.le_toInt
  have h2 := y.toInt8.toInt_lt
  simp only [lo8, fits, Bool.and_eq_true, decide_eq_true_eq, Int32.le_iff_toInt_le, Int8.toInt_toInt32, show (-128 : Int32).toInt = -128 from by decide, show (127 : Int32).toInt = 127 from by decide]
  omega
/-- A' is A but that each place j of lo .. hi - 1 holds f j -/
def Laid (A A' : Cell) (lo hi : Nat) (f : Nat → Value) : Prop := A'.cls = A.cls ∧ A'.vm = A.vm ∧ A'.slots.size = A.slots.size ∧ ∀ i, A'.slots[i]? = if lo ≤ i ∧ i < hi then some (f i) else A.slots[i]?
theorem Laid.zero (A : Cell) (lo : Nat) (f : Nat → Value) : Laid A A lo (lo + 0) f := ⟨rfl, rfl, rfl, fun i => by rw [if_neg (by omega)]⟩
theorem Laid.step {A Ak : Cell} {lo k : Nat} {f : Nat → Value} {v : Value} (h : Laid A Ak lo k f) (hlo : lo ≤ k) (hk : k < Ak.slots.size) (hv : v = f k) : Laid A (Ak.setSlot k v) lo (k + 1) f := by
  refine ⟨h.1, h.2.1, by simpa [Cell.setSlot] using h.2.2.1, fun i => ?_⟩
  by_cases e : k = i
  · subst e; rw [Cell.slots_setSlot_self v hk, if_pos (by omega), hv]
  · rw [Cell.slots_setSlot_ne v e, h.2.2.2 i]
    by_cases q : lo ≤ i ∧ i < k
    · rw [if_pos q, if_pos (by omega)]
    · rw [if_neg q, if_neg (by omega)]
def U16 : String := "java/lang/StringUTF16"
namespace Cmp5
def yN : MethodName := ⟨"java/lang/StringUTF16", "compress", "([CI[BII)I"⟩
abbrev yB : ByteArray := jdk_52_method_21_code
theorem d0 : decode yB 0 = .ok (.iconst 0, 1) := by decide +kernel
theorem d1 : decode yB 1 = .ok (.istore 5, 2) := by decide +kernel
theorem d3 : decode yB 3 = .ok (.iload 5, 2) := by decide +kernel
theorem d5 : decode yB 5 = .ok (.iload 4, 2) := by decide +kernel
theorem d7 : decode yB 7 = .ok (.if_icmp (.ge) 37, 3) := by decide +kernel
theorem d10 : decode yB 10 = .ok (.aload_n 0, 1) := by decide +kernel
theorem d11 : decode yB 11 = .ok (.iload_n 1, 1) := by decide +kernel
theorem d12 : decode yB 12 = .ok (.caload, 1) := by decide +kernel
theorem d13 : decode yB 13 = .ok (.istore 6, 2) := by decide +kernel
theorem d15 : decode yB 15 = .ok (.iload 6, 2) := by decide +kernel
theorem d17 : decode yB 17 = .ok (.sipush 255, 3) := by decide +kernel
theorem d20 : decode yB 20 = .ok (.if_icmp (.le) 6, 3) := by decide +kernel
theorem d26 : decode yB 26 = .ok (.aload_n 2, 1) := by decide +kernel
theorem d27 : decode yB 27 = .ok (.iload_n 3, 1) := by decide +kernel
theorem d28 : decode yB 28 = .ok (.iload 6, 2) := by decide +kernel
theorem d30 : decode yB 30 = .ok (.i2b, 1) := by decide +kernel
theorem d31 : decode yB 31 = .ok (.bastore, 1) := by decide +kernel
theorem d32 : decode yB 32 = .ok (.iinc 1 1, 3) := by decide +kernel
theorem d35 : decode yB 35 = .ok (.iinc 3 1, 3) := by decide +kernel
theorem d38 : decode yB 38 = .ok (.iinc 5 1, 3) := by decide +kernel
theorem d41 : decode yB 41 = .ok (.goto (-38), 3) := by decide +kernel
theorem d44 : decode yB 44 = .ok (.iload 4, 2) := by decide +kernel
theorem d46 : decode yB 46 = .ok (.ireturn, 1) := by decide +kernel
def site : List Cond := []
def tab : Cond := tabOf yN yB 7 (some .int) site
def P (b : Addr) (A : Cell) (d : Addr) (B : Cell) (o q len : Nat) (args : Array Value) (s : State) : Prop := args = #[.ref b, .int (Int32.ofNat o), .ref d, .int (Int32.ofNat q), .int (Int32.ofNat len)] ∧ Ch b A s ∧ Arr .byte d B s ∧ b ≠ d ∧ o + len ≤ A.slots.size ∧ q + len ≤ B.slots.size ∧ ∀ i, i < len → ¬ 255 < cv A (o + i)
def E (b : Addr) (A : Cell) (d : Addr) (B : Cell) (o q len : Nat) (r : Option Value) (s u : State) : Prop := r = some (.int (Int32.ofNat len)) ∧ ∃ B', Put d B' s u ∧ Laid B B' q (q + len) (fun j => Value.int (lo8 (cv A (o + (j - q)))))
/-- no char of the range above 255: len; the places written hold each char's low byte -/
theorem law (l : Launch) (b : Addr) (A : Cell) (d : Addr) (B : Cell) (o q len : Nat) : Law l yN 5 5 0 0 yB 7 (some .int) site (P b A d B o q len) (E b A d B o q len) (copyLocs d q len) 0 0 := by
  refine Law.of_walk (plainFor_of_name (by decide +kernel)) (by decide +kernel) (by decide +kernel) (by decide) (fun _ _ h => by rw [h.1]; rfl) (fun _ U U' hal hh h => ⟨h.1, h.2.1.mv hal hh, h.2.2.1.mv hal hh, h.2.2.2⟩) (fun r U U' V V' h1 hal h2 h => ⟨h.1, h.2.elim fun B' q => ⟨B', q.1.mv h1 h2, q.2⟩⟩) ?_
  intro p e s m args below meth c s₁ X0 hexec hbytes hml hret hlk hnm hown hh0 W hP
  obtain ⟨rfl, hA, hB, hne, l1, l2, hp⟩ := hP
  have c1 : Steps p.tables e below (s₁.setTop (entryFrame m #[.ref b, .int (Int32.ofNat o), .ref d, .int (Int32.ofNat q), .int (Int32.ofNat len)] 7)) (s₁.setTop (mkF m 0 #[.val (.ref b), .val (.int (Int32.ofNat o)), .val (.ref d), .val (.int (Int32.ofNat q)), .val (.int (Int32.ofNat len)), .unset, .unset] [])) := entry rfl
  have hA0 := hA.1.mv X0.warmed.alike hh0
  have hB0 := hB.mv X0.warmed.alike hh0
  have a31 := hA.1.2.2.2
  have c2 : Steps p.tables e below (s₁.setTop (entryFrame m #[.ref b, .int (Int32.ofNat o), .ref d, .int (Int32.ofNat q), .int (Int32.ofNat len)] 7)) (s₁.setTop (mkF m 3 #[.val (.ref b), .val (.int (Int32.ofNat o)), .val (.ref d), .val (.int (Int32.ofNat q)), .val (.int (Int32.ofNat len)), .val (.int 0), .unset] [])) := c1.trans (by
    refine iconstV X0.here hexec rfl 0 (hb hbytes d0) (by decide) ?_
    refine XS.istore X0.here hexec rfl (hb hbytes d1) rfl rfl ?_
    exact Steps.refl _)
  have loop : ∀ (r i : Nat), i + r = len → ∀ (z : Slot), (z = .unset ∨ ∃ w, z = .val w ∧ w.category = 1) → ∀ (Tl : State) (Bk : Cell), Stand p l e { frames := 0, locals := 0, cells := 0, slots := 0 } s m #[.ref b, .int (Int32.ofNat o), .ref d, .int (Int32.ofNat q), .int (Int32.ofNat len)] below meth c Tl ([] ++ copyLocs d q i) 0 0 → Put d Bk s₁ Tl → Laid B Bk q (q + i) (fun j => Value.int (lo8 (cv A (o + (j - q))))) →
      Steps p.tables e below (s₁.setTop (entryFrame m #[.ref b, .int (Int32.ofNat o), .ref d, .int (Int32.ofNat q), .int (Int32.ofNat len)] 7)) (Tl.setTop (mkF m 3 #[.val (.ref b), .val (.int (Int32.ofNat (o + i))), .val (.ref d), .val (.int (Int32.ofNat (q + i))), .val (.int (Int32.ofNat len)), .val (.int (Int32.ofNat i)), z] [])) → ∃ (T' : State) (B' : Cell) (z' : Slot), Stand p l e { frames := 0, locals := 0, cells := 0, slots := 0 } s m #[.ref b, .int (Int32.ofNat o), .ref d, .int (Int32.ofNat q), .int (Int32.ofNat len)] below meth c T' ([] ++ copyLocs d q len) 0 0 ∧ Put d B' s₁ T' ∧ Laid B B' q (q + len) (fun j => Value.int (lo8 (cv A (o + (j - q))))) ∧
      Steps p.tables e below (s₁.setTop (entryFrame m #[.ref b, .int (Int32.ofNat o), .ref d, .int (Int32.ofNat q), .int (Int32.ofNat len)] 7)) (T'.setTop (mkF m 3 #[.val (.ref b), .val (.int (Int32.ofNat (o + len))), .val (.ref d), .val (.int (Int32.ofNat (q + len))), .val (.int (Int32.ofNat len)), .val (.int (Int32.ofNat len)), z'] [])) := by
    intro r
    induction r with
    | zero =>
      intro i hi z hz Tl Bk Xl pl fl cl
      have hil : i = len := by omega
      rw [hil] at Xl fl cl
      exact ⟨Tl, Bk, z, Xl, pl, fl, cl⟩
    | succ r ih =>
      intro i hi z hz Tl Bk Xl pl fl cl
      have all := X0.warmed.alike.symm.trans Xl.warmed.alike
      have hAl := hA0.keep all (pl.other hne hA0.1)
      have hBk := hB0.like all pl.1 fl.1 fl.2.1 fl.2.2.1
      have hlt : q + i < Bk.slots.size := by rw [fl.2.2.1]; omega
      have c3 : Steps p.tables e below (s₁.setTop (entryFrame m #[.ref b, .int (Int32.ofNat o), .ref d, .int (Int32.ofNat q), .int (Int32.ofNat len)] 7)) (Tl.setTop (mkF m 12 #[.val (.ref b), .val (.int (Int32.ofNat (o + i))), .val (.ref d), .val (.int (Int32.ofNat (q + i))), .val (.int (Int32.ofNat len)), .val (.int (Int32.ofNat i)), z] [.int (Int32.ofNat (o + i)), .ref b])) := cl.trans (by
        refine XS.iload Xl.here hexec rfl (hb hbytes d3) rfl ?_
        refine XS.iload Xl.here hexec rfl (hb hbytes d5) rfl ?_
        refine XS.icmpNo Xl.here hexec rfl (hb hbytes d7) rfl (ii_ge_f (lt32 (by omega) (by omega))) ?_
        refine XS.aloadN Xl.here hexec rfl (hb hbytes d10) rfl rfl ?_
        refine XS.iloadN Xl.here hexec rfl (hb hbytes d11) rfl ?_
        exact Steps.refl _)
      have c4 : Steps p.tables e below (s₁.setTop (entryFrame m #[.ref b, .int (Int32.ofNat o), .ref d, .int (Int32.ofNat q), .int (Int32.ofNat len)] 7)) (Tl.setTop (mkF m 13 #[.val (.ref b), .val (.int (Int32.ofNat (o + i))), .val (.ref d), .val (.int (Int32.ofNat (q + i))), .val (.int (Int32.ofNat len)), .val (.int (Int32.ofNat i)), z] [.int (cv A (o + i))])) := c3.trans (by
        refine Xl.aget hexec hAl rfl (hA.get (i := o + i) (by omega)) rfl rfl (hb hbytes d12) ?_
        exact Steps.refl _)
      have c5 : Steps p.tables e below (s₁.setTop (entryFrame m #[.ref b, .int (Int32.ofNat o), .ref d, .int (Int32.ofNat q), .int (Int32.ofNat len)] 7)) (Tl.setTop (mkF m 15 #[.val (.ref b), .val (.int (Int32.ofNat (o + i))), .val (.ref d), .val (.int (Int32.ofNat (q + i))), .val (.int (Int32.ofNat len)), .val (.int (Int32.ofNat i)), .val (.int (cv A (o + i)))] [])) := c4.trans (by
        refine XS.istoreS Xl.here hexec rfl (hb hbytes d13) rfl rfl hz ?_
        exact Steps.refl _)
      have c6 : Steps p.tables e below (s₁.setTop (entryFrame m #[.ref b, .int (Int32.ofNat o), .ref d, .int (Int32.ofNat q), .int (Int32.ofNat len)] 7)) (Tl.setTop (mkF m 31 #[.val (.ref b), .val (.int (Int32.ofNat (o + i))), .val (.ref d), .val (.int (Int32.ofNat (q + i))), .val (.int (Int32.ofNat len)), .val (.int (Int32.ofNat i)), .val (.int (cv A (o + i)))] [.int (lo8 (cv A (o + i))), .int (Int32.ofNat (q + i)), .ref d])) := c5.trans (by
        refine XS.iload Xl.here hexec rfl (hb hbytes d15) rfl ?_
        refine sipushV Xl.here hexec rfl 255 (hb hbytes d17) (by decide) ?_
        refine XS.icmpYes Xl.here hexec rfl (pc0 := 20) rfl (hb hbytes d20) rfl (ii_le_t (hp i (by omega))) (by decide) rfl ?_
        refine XS.aloadN Xl.here hexec rfl (hb hbytes d26) rfl rfl ?_
        refine XS.iloadN Xl.here hexec rfl (hb hbytes d27) rfl ?_
        refine XS.iload Xl.here hexec rfl (hb hbytes d28) rfl ?_
        refine i2b Xl.here hexec rfl (hb hbytes d30) rfl ?_
        exact Steps.refl _)
      obtain ⟨T7, X7, p7, st7⟩ := Xl.aput hexec hBk rfl hlt rfl (fits_lo8 (cv A (o + i))) (g := (mkF m 31 #[.val (.ref b), .val (.int (Int32.ofNat (o + i))), .val (.ref d), .val (.int (Int32.ofNat (q + i))), .val (.int (Int32.ofNat len)), .val (.int (Int32.ofNat i)), .val (.int (cv A (o + i)))] [.int (lo8 (cv A (o + i))), .int (Int32.ofNat (q + i)), .ref d])) rfl (rest := []) rfl (hb hbytes d31)
      have c8 : Steps p.tables e below (s₁.setTop (entryFrame m #[.ref b, .int (Int32.ofNat o), .ref d, .int (Int32.ofNat q), .int (Int32.ofNat len)] 7)) (T7.setTop (mkF m 32 #[.val (.ref b), .val (.int (Int32.ofNat (o + i))), .val (.ref d), .val (.int (Int32.ofNat (q + i))), .val (.int (Int32.ofNat len)), .val (.int (Int32.ofNat i)), .val (.int (cv A (o + i)))] [])) := c6.trans (st7 _ (Steps.refl _))
      have c9 : Steps p.tables e below (s₁.setTop (entryFrame m #[.ref b, .int (Int32.ofNat o), .ref d, .int (Int32.ofNat q), .int (Int32.ofNat len)] 7)) (T7.setTop (mkF m 3 #[.val (.ref b), .val (.int (Int32.ofNat (o + i) + 1)), .val (.ref d), .val (.int (Int32.ofNat (q + i) + 1)), .val (.int (Int32.ofNat len)), .val (.int (Int32.ofNat i + 1)), .val (.int (cv A (o + i)))] [])) := c8.trans (by
        refine iincV X7.here hexec rfl 1 (hb hbytes d32) (by decide) rfl rfl ?_
        refine iincV X7.here hexec rfl 1 (hb hbytes d35) (by decide) rfl rfl ?_
        refine iincV X7.here hexec rfl 1 (hb hbytes d38) (by decide) rfl rfl ?_
        refine XS.goto X7.here hexec rfl (pc0 := 41) rfl (hb hbytes d41) (by decide) rfl ?_
        exact Steps.refl _)
      have c10 : Steps p.tables e below (s₁.setTop (entryFrame m #[.ref b, .int (Int32.ofNat o), .ref d, .int (Int32.ofNat q), .int (Int32.ofNat len)] 7)) (T7.setTop (mkF m 3 #[.val (.ref b), .val (.int (Int32.ofNat (o + (i + 1)))), .val (.ref d), .val (.int (Int32.ofNat (q + (i + 1)))), .val (.int (Int32.ofNat len)), .val (.int (Int32.ofNat (i + 1))), .val (.int (cv A (o + i)))] [])) := by
        have := c9
        rw [succ32, succ32, succ32] at this
        exact this
      exact ih (i + 1) (by omega) _ (Or.inr ⟨_, rfl, rfl⟩) T7 _ (by rw [copyLocs_step, ← List.append_assoc]; exact X7) (pl.trans p7) (fl.step (by omega) hlt (by simp)) c10
  obtain ⟨T9, B9, z9, X9, p9, f9, g9⟩ := loop len 0 (by omega) .unset (Or.inl rfl) s₁ B (by simpa [copyLocs] using X0) ⟨hB0.1, fun _ _ => rfl, rfl⟩ (Laid.zero _ _ _) c2
  have c11 : Steps p.tables e below (s₁.setTop (entryFrame m #[.ref b, .int (Int32.ofNat o), .ref d, .int (Int32.ofNat q), .int (Int32.ofNat len)] 7)) (T9.setTop (mkF m 46 #[.val (.ref b), .val (.int (Int32.ofNat (o + len))), .val (.ref d), .val (.int (Int32.ofNat (q + len))), .val (.int (Int32.ofNat len)), .val (.int (Int32.ofNat len)), z9] [.int (Int32.ofNat len)])) := g9.trans (by
    refine XS.iload X9.here hexec rfl (hb hbytes d3) rfl ?_
    refine XS.iload X9.here hexec rfl (hb hbytes d5) rfl ?_
    refine XS.icmpYes X9.here hexec rfl (pc0 := 7) rfl (hb hbytes d7) rfl (ii_ge_t (nlt32 (by omega) (Nat.le_refl _))) (by decide) rfl ?_
    refine XS.iload X9.here hexec rfl (hb hbytes d44) rfl ?_
    exact Steps.refl _)
  exact ⟨T9, some (.int (Int32.ofNat len)), _, _, _, X9, by simp, rfl, rfl, (fun h => by cases h), ⟨rfl, B9, p9.from hh0, f9⟩, fun fs hl => c11.trans (X9.ireturnOut hexec hret rfl (Or.inl rfl) (hb hbytes d46) hl)⟩
end Cmp5
namespace Cmp3
def yN : MethodName := ⟨"java/lang/StringUTF16", "compress", "([CII)[B"⟩
abbrev yB : ByteArray := jdk_52_method_16_code
theorem d0 : decode yB 0 = .ok (.iload_n 2, 1) := by decide +kernel
theorem d1 : decode yB 1 = .ok (.newarray .byte, 2) := by decide +kernel
theorem d3 : decode yB 3 = .ok (.astore_n 3, 1) := by decide +kernel
theorem d4 : decode yB 4 = .ok (.aload_n 0, 1) := by decide +kernel
theorem d5 : decode yB 5 = .ok (.iload_n 1, 1) := by decide +kernel
theorem d6 : decode yB 6 = .ok (.aload_n 3, 1) := by decide +kernel
theorem d7 : decode yB 7 = .ok (.iconst 0, 1) := by decide +kernel
theorem d8 : decode yB 8 = .ok (.iload_n 2, 1) := by decide +kernel
theorem d9 : decode yB 9 = .ok (.invokestatic 115, 3) := by decide +kernel
theorem d12 : decode yB 12 = .ok (.istore 4, 2) := by decide +kernel
theorem d14 : decode yB 14 = .ok (.iload 4, 2) := by decide +kernel
theorem d16 : decode yB 16 = .ok (.iload_n 2, 1) := by decide +kernel
theorem d17 : decode yB 17 = .ok (.if_icmp (.eq) 40, 3) := by decide +kernel
theorem d57 : decode yB 57 = .ok (.aload_n 3, 1) := by decide +kernel
theorem d58 : decode yB 58 = .ok (.areturn, 1) := by decide +kernel
def site : List Cond := [.arrayClass .byte, Cmp5.tab] ++ staticW U16 115 Cmp5.yN
def tab : Cond := tabOf yN yB 6 (some (.array .byte)) site
def P (b : Addr) (A : Cell) (o len : Nat) (args : Array Value) (s : State) : Prop := args = #[.ref b, .int (Int32.ofNat o), .int (Int32.ofNat len)] ∧ Ch b A s ∧ o + len ≤ A.slots.size ∧ len ≤ 536870912 ∧ ∀ i, i < len → ¬ 255 < cv A (o + i)
def E (b : Addr) (A : Cell) (o len : Nat) (r : Option Value) (s u : State) : Prop := NewArr .byte "[B" len (fun j => .int (lo8 (cv A (o + j)))) r s u ∧ u.heap.size = s.heap.size + 1
/-- no char of the range above 255: a new byte[] of their low bytes -/
theorem law (l : Launch) (b : Addr) (A : Cell) (o len : Nat) : Law l yN 3 3 1 18 yB 6 (some (.array .byte)) site (P b A o len) (E b A o len) [] 1 len := by
  refine Law.of_walk (plainFor_of_name (by decide +kernel)) (by decide +kernel) (by decide +kernel) (by decide) (fun _ _ h => by rw [h.1]; rfl) (fun _ U U' hal hh h => ⟨h.1, h.2.1.mv hal hh, h.2.2⟩) (fun r U U' V V' h1 hal h2 h => ⟨NewArr.mv r U U' V V' h1 hal h2 h.1, by rw [h1, h2]; exact h.2⟩) ?_
  intro p e s m args below meth c s₁ X0 hexec hbytes hml hret hlk hnm hown hh0 W hP
  obtain ⟨rfl, hA, l1, l2, hp⟩ := hP
  have a31 := hA.1.2.2.2
  have c1 : Steps p.tables e below (s₁.setTop (entryFrame m #[.ref b, .int (Int32.ofNat o), .int (Int32.ofNat len)] 6)) (s₁.setTop (mkF m 0 #[.val (.ref b), .val (.int (Int32.ofNat o)), .val (.int (Int32.ofNat len)), .unset, .unset, .unset] [])) := entry rfl
  have c2 : Steps p.tables e below (s₁.setTop (entryFrame m #[.ref b, .int (Int32.ofNat o), .int (Int32.ofNat len)] 6)) (s₁.setTop (mkF m 1 #[.val (.ref b), .val (.int (Int32.ofNat o)), .val (.int (Int32.ofNat len)), .unset, .unset, .unset] [.int (Int32.ofNat len)])) := c1.trans (by
    refine XS.iloadN X0.here hexec rfl (hb hbytes d0) rfl ?_
    exact Steps.refl _)
  obtain ⟨T3, B3, X3, ba3, bs3, bv3, bh3, bf3, st3⟩ := X0.anew hexec (atype := .byte) (wk W (.arrayClass .byte)) rfl (by show len * 1 ≤ _; omega) (by omega) (g := (mkF m 1 #[.val (.ref b), .val (.int (Int32.ofNat o)), .val (.int (Int32.ofNat len)), .unset, .unset, .unset] [.int (Int32.ofNat len)])) rfl (hb hbytes d1) (rest := []) rfl (Nat.le_refl _) (by show 0 + len ≤ len; omega)
  rw [hh0] at ba3 st3
  have kp3 : XT.Kept s T3 := (XT.Kept.of_eq hh0).push bh3
  have hA3 := hA.keep X3.warmed.alike (kp3 _ _ hA.1.1)
  have hne : b ≠ s.heap.size := hA.1.ne
  have c4 : Steps p.tables e below (s₁.setTop (entryFrame m #[.ref b, .int (Int32.ofNat o), .int (Int32.ofNat len)] 6)) (T3.setTop (mkF m 3 #[.val (.ref b), .val (.int (Int32.ofNat o)), .val (.int (Int32.ofNat len)), .unset, .unset, .unset] [.ref s.heap.size])) := c2.trans (st3 _ (Steps.refl _))
  have c5 : Steps p.tables e below (s₁.setTop (entryFrame m #[.ref b, .int (Int32.ofNat o), .int (Int32.ofNat len)] 6)) (T3.setTop (mkF m 9 #[.val (.ref b), .val (.int (Int32.ofNat o)), .val (.int (Int32.ofNat len)), .val (.ref s.heap.size), .unset, .unset] [.int (Int32.ofNat len), .int 0, .ref s.heap.size, .int (Int32.ofNat o), .ref b])) := c4.trans (by
    refine XS.astoreN X3.here hexec rfl (hb hbytes d3) rfl rfl rfl ?_
    refine XS.aloadN X3.here hexec rfl (hb hbytes d4) rfl rfl ?_
    refine XS.iloadN X3.here hexec rfl (hb hbytes d5) rfl ?_
    refine XS.aloadN X3.here hexec rfl (hb hbytes d6) rfl rfl ?_
    refine iconstV X3.here hexec rfl 0 (hb hbytes d7) (by decide) ?_
    refine XS.iloadN X3.here hexec rfl (hb hbytes d8) rfl ?_
    exact Steps.refl _)
  obtain ⟨v6, T6, X6, E6, g6⟩ := X3.callS hexec (Cmp5.law l b A s.heap.size B3 o 0 len) hown (wks W (staticW U16 115 Cmp5.yN)) (wk W Cmp5.tab) (W := 0) (Nat.le_of_ble_eq_true rfl) (Nat.le_of_ble_eq_true rfl) (Nat.le_refl _) (by show 0 + len + 0 ≤ len; omega) (g := (mkF m 9 #[.val (.ref b), .val (.int (Int32.ofNat o)), .val (.int (Int32.ofNat len)), .val (.ref s.heap.size), .unset, .unset] [.int (Int32.ofNat len), .int (Int32.ofNat 0), .ref s.heap.size, .int (Int32.ofNat o), .ref b])) rfl (by rw [hml]; rfl) c5 (argsL := [.ref b, .int (Int32.ofNat o), .ref s.heap.size, .int (Int32.ofNat 0), .int (Int32.ofNat len)]) (rest := []) rfl rfl (by show 2 * 0 + 0 ≤ _; decide) (hb hbytes d9) (⟨rfl, hA3, ba3, hne, l1, by rw [bs3]; simp, hp⟩)
  obtain ⟨rfl, B6, p6, f6⟩ := E6
  have c7 : Steps p.tables e below (s₁.setTop (entryFrame m #[.ref b, .int (Int32.ofNat o), .int (Int32.ofNat len)] 6)) (T6.setTop (mkF m 12 #[.val (.ref b), .val (.int (Int32.ofNat o)), .val (.int (Int32.ofNat len)), .val (.ref s.heap.size), .unset, .unset] [.int (Int32.ofNat len)])) := g6
  have c8 : Steps p.tables e below (s₁.setTop (entryFrame m #[.ref b, .int (Int32.ofNat o), .int (Int32.ofNat len)] 6)) (T6.setTop (mkF m 58 #[.val (.ref b), .val (.int (Int32.ofNat o)), .val (.int (Int32.ofNat len)), .val (.ref s.heap.size), .val (.int (Int32.ofNat len)), .unset] [.ref s.heap.size])) := c7.trans (by
    refine XS.istore X6.here hexec rfl (hb hbytes d12) rfl rfl ?_
    refine XS.iload X6.here hexec rfl (hb hbytes d14) rfl ?_
    refine XS.iloadN X6.here hexec rfl (hb hbytes d16) rfl ?_
    refine XS.icmpYes X6.here hexec rfl (pc0 := 17) rfl (hb hbytes d17) rfl (ii_eq_t rfl) (by decide) rfl ?_
    refine XS.aloadN X6.here hexec rfl (hb hbytes d57) rfl rfl ?_
    exact Steps.refl _)
  have X8 := X6.wide (L' := []) (cells' := 1) (slots' := len) (fun x hx hlt => by
    simp only [List.nil_append, copyLocs, List.mem_map, List.mem_range] at hx
    obtain ⟨i, -, rfl⟩ := hx
    exact absurd hlt (Nat.lt_irrefl _)) (Nat.le_refl _) (by omega)
  exact ⟨T6, some (.ref s.heap.size), _, _, _, X8, rfl, rfl, rfl, (fun h => by cases h), ⟨⟨rfl, B6, ba3.like (X3.warmed.alike.symm.trans X6.warmed.alike) p6.1 f6.1 f6.2.1 f6.2.2.1, f6.2.1.trans bv3, by rw [X6.warmed.alike.findClass, f6.1]; exact bf3, by rw [f6.2.2.1, bs3]; simp, fun j hj => by rw [f6.2.2.2 j, if_pos (by omega)]; rfl, kp3.put p6 (Nat.le_refl _)⟩, by rw [p6.2.2, bh3, hh0]; simp⟩, fun fs hl => c8.trans (X8.areturnOut hexec rfl hret rfl (hb hbytes d58) hl)⟩
end Cmp3
namespace CodL
def yN : MethodName := ⟨"java/lang/StringUTF16", "coderFromArrayLen", "([BI)B"⟩
abbrev yB : ByteArray := jdk_52_method_15_code
theorem d0 : decode yB 0 = .ok (.iload_n 1, 1) := by decide +kernel
theorem d1 : decode yB 1 = .ok (.aload_n 0, 1) := by decide +kernel
theorem d2 : decode yB 2 = .ok (.arraylength, 1) := by decide +kernel
theorem d3 : decode yB 3 = .ok (.isub, 1) := by decide +kernel
theorem d4 : decode yB 4 = .ok (.bipush 31, 2) := by decide +kernel
theorem d6 : decode yB 6 = .ok (.iushr, 1) := by decide +kernel
theorem d7 : decode yB 7 = .ok (.i2b, 1) := by decide +kernel
theorem d8 : decode yB 8 = .ok (.ireturn, 1) := by decide +kernel
def site : List Cond := []
def tab : Cond := tabOf yN yB 2 (some .byte) site
def P (d : Addr) (B : Cell) (args : Array Value) (s : State) : Prop := args = #[.ref d, .int (Int32.ofNat B.slots.size)] ∧ Arr .byte d B s
def E (r : Option Value) (s u : State) : Prop := XT.PureE (some (.int 0)) r s u
/-- an array as long as the number of chars: LATIN1 -/
theorem law (l : Launch) (d : Addr) (B : Cell) : Law l yN 2 2 0 0 yB 2 (some .byte) site (P d B) E [] 0 0 := by
  refine Law.of_walk (plainFor_of_name (by decide +kernel)) (by decide +kernel) (by decide +kernel) (by decide) (fun _ _ h => by rw [h.1]; rfl) (fun _ U U' hal hh h => ⟨h.1, h.2.mv hal hh⟩) (fun r U U' V V' h1 hal h2 h => XT.PureE.mv r U U' V V' h1 hal h2 h) ?_
  intro p e s m args below meth c s₁ X0 hexec hbytes hml hret hlk hnm hown hh0 W hP
  obtain ⟨rfl, hB⟩ := hP
  have hB0 := hB.mv X0.warmed.alike hh0
  have c1 : Steps p.tables e below (s₁.setTop (entryFrame m #[.ref d, .int (Int32.ofNat B.slots.size)] 2)) (s₁.setTop (mkF m 0 #[.val (.ref d), .val (.int (Int32.ofNat B.slots.size))] [])) := entry rfl
  have c2 : Steps p.tables e below (s₁.setTop (entryFrame m #[.ref d, .int (Int32.ofNat B.slots.size)] 2)) (s₁.setTop (mkF m 2 #[.val (.ref d), .val (.int (Int32.ofNat B.slots.size))] [.ref d, .int (Int32.ofNat B.slots.size)])) := c1.trans (by
    refine XS.iloadN X0.here hexec rfl (hb hbytes d0) rfl ?_
    refine XS.aloadN X0.here hexec rfl (hb hbytes d1) rfl rfl ?_
    exact Steps.refl _)
  have c3 : Steps p.tables e below (s₁.setTop (entryFrame m #[.ref d, .int (Int32.ofNat B.slots.size)] 2)) (s₁.setTop (mkF m 8 #[.val (.ref d), .val (.int (Int32.ofNat B.slots.size))] [.int (lo8 (ushr (Int32.ofNat B.slots.size - Int32.ofNat B.slots.size) 31))])) := c2.trans (by
    refine X0.alen hexec hB0 rfl rfl (hb hbytes d2) ?_
    refine XS.isub X0.here hexec rfl (hb hbytes d3) rfl ?_
    refine bipushV X0.here hexec rfl 31 (hb hbytes d4) (by decide) ?_
    refine iushr X0.here hexec rfl (hb hbytes d6) rfl ?_
    refine i2b X0.here hexec rfl (hb hbytes d7) rfl ?_
    exact Steps.refl _)
  have e0 : lo8 (ushr (Int32.ofNat B.slots.size - Int32.ofNat B.slots.size) 31) = 0 := by rw [Int32.sub_self]; decide
  rw [e0] at c3
  exact ⟨s₁, some (.int 0), _, _, _, X0, rfl, rfl, rfl, (fun h => by cases h), ⟨rfl, hh0⟩, fun fs hl => c3.trans (X0.ireturnOut hexec hret rfl (Or.inr (Or.inr (Or.inl rfl))) (hb hbytes d8) hl)⟩
end CodL
/-- the String at a is Latin-1 over a new byte[] (the heap's one new cell): the low bytes of the len chars of A from o on; every cell but a is kept -/
def Got (a : Addr) (D : Cell) (fV fC : Field) (A : Cell) (o len : Nat) (r : Option Value) (s u : State) : Prop := r = none ∧ ∃ D' V : Cell, Blank "java/lang/String" a D' u ∧ Same D D' [fV.slot, fC.slot] ∧ D'.slots[fV.slot]? = some (.ref s.heap.size) ∧ D'.slots[fC.slot]? = some (.int 0) ∧ Arr .byte s.heap.size V u ∧ V.vm = .none ∧ u.vm.findClass "[B" = some V.cls ∧ V.slots.size = len ∧ (∀ j, j < len → V.slots[j]? = some (.int (lo8 (cv A (o + j))))) ∧ (∀ (y : Addr) (c : Cell), y ≠ a → s.heap[y]? = some c → u.heap[y]? = some c) ∧ u.heap.size = s.heap.size + 1
theorem Got.mv {a : Addr} {D A : Cell} {fV fC : Field} {o len : Nat} : ∀ r (U U' V V' : State), U'.heap = U.heap → V.vm.Alike V'.vm → V'.heap = V.heap → Got a D fV fC A o len r U V → Got a D fV fC A o len r U' V' :=
  fun r U U' V V' h1 hal h2 ⟨e0, D', X, a1, a2, a3, a4, a5, a6, a7, a8, a9, a10, a11⟩ => ⟨e0, D', X, a1.mv hal h2, a2, by rw [h1]; exact a3, a4, by rw [h1]; exact a5.mv hal h2, a6, by rw [hal.findClass]; exact a7, a8, a9, by rw [h1, h2]; exact a10, by rw [h1, h2]; exact a11⟩
namespace New4
def yN : MethodName := ⟨"java/lang/String", "<init>", "([CIILjava/lang/Void;)V"⟩
abbrev yB : ByteArray := jdk_42_method_149_code
theorem d0 : decode yB 0 = .ok (.aload_n 0, 1) := by decide +kernel
theorem d1 : decode yB 1 = .ok (.invokespecial 1, 3) := by decide +kernel
theorem d4 : decode yB 4 = .ok (.iload_n 3, 1) := by decide +kernel
theorem d5 : decode yB 5 = .ok (.ifCond (.ne) 22, 3) := by decide +kernel
theorem d27 : decode yB 27 = .ok (.getstatic 38, 3) := by decide +kernel
theorem d30 : decode yB 30 = .ok (.ifCond (.eq) 28, 3) := by decide +kernel
theorem d33 : decode yB 33 = .ok (.aload_n 1, 1) := by decide +kernel
theorem d34 : decode yB 34 = .ok (.iload_n 2, 1) := by decide +kernel
theorem d35 : decode yB 35 = .ok (.iload_n 3, 1) := by decide +kernel
theorem d36 : decode yB 36 = .ok (.invokestatic 177, 3) := by decide +kernel
theorem d39 : decode yB 39 = .ok (.astore 5, 2) := by decide +kernel
theorem d41 : decode yB 41 = .ok (.aload_n 0, 1) := by decide +kernel
theorem d42 : decode yB 42 = .ok (.aload 5, 2) := by decide +kernel
theorem d44 : decode yB 44 = .ok (.iload_n 3, 1) := by decide +kernel
theorem d45 : decode yB 45 = .ok (.invokestatic 47, 3) := by decide +kernel
theorem d48 : decode yB 48 = .ok (.putfield 15, 3) := by decide +kernel
theorem d51 : decode yB 51 = .ok (.aload_n 0, 1) := by decide +kernel
theorem d52 : decode yB 52 = .ok (.aload 5, 2) := by decide +kernel
theorem d54 : decode yB 54 = .ok (.putfield 9, 3) := by decide +kernel
theorem d57 : decode yB 57 = .ok (.return_, 1) := by decide +kernel
def site : List Cond := [.fieldLink "java/lang/String" 38 "java/lang/String" "COMPACT_STRINGS" "Z", Cmp3.tab, CodL.tab, .laysFinal "java/lang/String" "java/lang/String" "value" "[B", .fieldLink "java/lang/String" 9 "java/lang/String" "value" "[B", .laysFinal "java/lang/String" "java/lang/String" "coder" "B", .fieldLink "java/lang/String" 15 "java/lang/String" "coder" "B"] ++ objW "java/lang/String" 1 ++ staticW "java/lang/String" 177 Cmp3.yN ++ staticW "java/lang/String" 47 CodL.yN
def tab : Cond := tabOf yN yB 6 none site
def P (a : Addr) (D : Cell) (fV fC : Field) (b : Addr) (A : Cell) (z : Int32) (o len : Nat) (args : Array Value) (s : State) : Prop := args = #[.ref a, .ref b, .int (Int32.ofNat o), .int (Int32.ofNat len), .null] ∧ Blank "java/lang/String" a D s ∧ Found "java/lang/String" "value" "[B" fV s ∧ Found "java/lang/String" "coder" "B" fC s ∧ Ch b A s ∧ StaticIs s "java/lang/String" "COMPACT_STRINGS" "Z" (.int z) ∧ ¬ z = 0 ∧ 0 < len ∧ o + len ≤ A.slots.size ∧ len ≤ 536870912 ∧ ∀ i, i < len → ¬ 255 < cv A (o + i)
def E (a : Addr) (D : Cell) (fV fC : Field) (A : Cell) (o len : Nat) (r : Option Value) (s u : State) : Prop := Got a D fV fC A o len r s u
/-- len > 0, no char of the range above 255: a Latin-1 String of their low bytes -/
theorem law (l : Launch) (a : Addr) (D : Cell) (fV fC : Field) (b : Addr) (A : Cell) (z : Int32) (o len : Nat) : Law l yN 5 4 2 35 yB 6 none site (P a D fV fC b A z o len) (E a D fV fC A o len) [⟨a, fC.slot⟩, ⟨a, fV.slot⟩] 1 len := by
  refine Law.of_walk (plainFor_of_name (by decide +kernel)) (by decide +kernel) (by decide +kernel) (by decide) (fun _ _ h => by rw [h.1]; rfl) (fun _ U U' hal hh h => ⟨h.1, h.2.1.mv hal hh, h.2.2.1.al hal, h.2.2.2.1.al hal, h.2.2.2.2.1.mv hal hh, h.2.2.2.2.2.1.there hal hh, h.2.2.2.2.2.2⟩) (fun r U U' V V' h1 hal h2 h => Got.mv r U U' V V' h1 hal h2 h) ?_
  intro p e s m args below meth c s₁ X0 hexec hbytes hml hret hlk hnm hown hh0 W hP
  obtain ⟨rfl, hB, f1, f2, hA, s1, hz, l0, l1, l2, hp⟩ := hP
  have a31 := hA.1.2.2.2
  have c1 : Steps p.tables e below (s₁.setTop (entryFrame m #[.ref a, .ref b, .int (Int32.ofNat o), .int (Int32.ofNat len), .null] 6)) (s₁.setTop (mkF m 0 #[.val (.ref a), .val (.ref b), .val (.int (Int32.ofNat o)), .val (.int (Int32.ofNat len)), .val .null, .unset] [])) := entry rfl
  have c2 : Steps p.tables e below (s₁.setTop (entryFrame m #[.ref a, .ref b, .int (Int32.ofNat o), .int (Int32.ofNat len), .null] 6)) (s₁.setTop (mkF m 1 #[.val (.ref a), .val (.ref b), .val (.int (Int32.ofNat o)), .val (.int (Int32.ofNat len)), .val .null, .unset] [.ref a])) := c1.trans (by
    refine XS.aloadN X0.here hexec rfl (hb hbytes d0) rfl rfl ?_
    exact Steps.refl _)
  obtain ⟨T3, X3, q3, st3⟩ := X0.oinit hexec hown (wks W (objW "java/lang/String" 1)) (g := (mkF m 1 #[.val (.ref a), .val (.ref b), .val (.int (Int32.ofNat o)), .val (.int (Int32.ofNat len)), .val .null, .unset] [.ref a])) rfl (by rw [hml]; rfl) (rest := []) rfl (hb hbytes d1) (W := 0) (by show 2 * 0 + 0 ≤ _; decide) (Nat.le_of_ble_eq_true rfl) (Nat.le_of_ble_eq_true rfl)
  have hh3 := q3.trans hh0
  have c4 : Steps p.tables e below (s₁.setTop (entryFrame m #[.ref a, .ref b, .int (Int32.ofNat o), .int (Int32.ofNat len), .null] 6)) (T3.setTop (mkF m 27 #[.val (.ref a), .val (.ref b), .val (.int (Int32.ofNat o)), .val (.int (Int32.ofNat len)), .val .null, .unset] [])) := (c2.trans (st3 _ (Steps.refl _))).trans (by
    refine XS.iloadN X3.here hexec rfl (hb hbytes d4) rfl ?_
    refine XS.ifYes X3.here hexec rfl (pc0 := 5) rfl (hb hbytes d5) rfl (i0_ne_t (nz32 (by omega) l0)) (by decide) rfl ?_
    exact Steps.refl _)
  obtain ⟨T5, X5, q5, st5⟩ := X3.sget hexec hown (wk W (.fieldLink "java/lang/String" 38 "java/lang/String" "COMPACT_STRINGS" "Z")) s1 (fun _ _ h => by rw [hh3]; exact h) (g := (mkF m 27 #[.val (.ref a), .val (.ref b), .val (.int (Int32.ofNat o)), .val (.int (Int32.ofNat len)), .val .null, .unset] [])) rfl (hb hbytes d27)
  have hh5 := q5.trans hh3
  have c6 : Steps p.tables e below (s₁.setTop (entryFrame m #[.ref a, .ref b, .int (Int32.ofNat o), .int (Int32.ofNat len), .null] 6)) (T5.setTop (mkF m 30 #[.val (.ref a), .val (.ref b), .val (.int (Int32.ofNat o)), .val (.int (Int32.ofNat len)), .val .null, .unset] [.int z])) := c4.trans (st5 _ (Steps.refl _))
  have c7 : Steps p.tables e below (s₁.setTop (entryFrame m #[.ref a, .ref b, .int (Int32.ofNat o), .int (Int32.ofNat len), .null] 6)) (T5.setTop (mkF m 36 #[.val (.ref a), .val (.ref b), .val (.int (Int32.ofNat o)), .val (.int (Int32.ofNat len)), .val .null, .unset] [.int (Int32.ofNat len), .int (Int32.ofNat o), .ref b])) := c6.trans (by
    refine XS.ifNo X5.here hexec rfl (hb hbytes d30) rfl (i0_eq_f hz) ?_
    refine XS.aloadN X5.here hexec rfl (hb hbytes d33) rfl rfl ?_
    refine XS.iloadN X5.here hexec rfl (hb hbytes d34) rfl ?_
    refine XS.iloadN X5.here hexec rfl (hb hbytes d35) rfl ?_
    exact Steps.refl _)
  obtain ⟨v8, T8, X8, E8, g8⟩ := X5.callS hexec (Cmp3.law l b A o len) hown (wks W (staticW "java/lang/String" 177 Cmp3.yN)) (wk W Cmp3.tab) (W := 0) (Nat.le_of_ble_eq_true rfl) (Nat.le_of_ble_eq_true rfl) (Nat.le_refl _) (by show 0 + len ≤ len; omega) (g := (mkF m 36 #[.val (.ref a), .val (.ref b), .val (.int (Int32.ofNat o)), .val (.int (Int32.ofNat len)), .val .null, .unset] [.int (Int32.ofNat len), .int (Int32.ofNat o), .ref b])) rfl (by rw [hml]; rfl) c7 (argsL := [.ref b, .int (Int32.ofNat o), .int (Int32.ofNat len)]) (rest := []) rfl rfl (by show 2 * 0 + 0 ≤ _; decide) (hb hbytes d36) (⟨rfl, hA.mv X5.warmed.alike hh5, l1, l2, hp⟩)
  obtain ⟨e8, z8⟩ := E8
  obtain ⟨rfl, N, n1, n2, n3, n4, n5, n6⟩ := NewArr.mv _ T5 s _ _ hh5.symm (Vm.Alike.refl _) rfl e8
  rw [hh5] at z8
  have hB1 := hB.keep X8.warmed.alike (n6 _ _ hB.1)
  have hne : s.heap.size ≠ a := (Nat.ne_of_lt (Array.getElem?_eq_some_iff.mp hB.1).1).symm
  have c9 : Steps p.tables e below (s₁.setTop (entryFrame m #[.ref a, .ref b, .int (Int32.ofNat o), .int (Int32.ofNat len), .null] 6)) (T8.setTop (mkF m 39 #[.val (.ref a), .val (.ref b), .val (.int (Int32.ofNat o)), .val (.int (Int32.ofNat len)), .val .null, .unset] [.ref s.heap.size])) := g8
  have c10 : Steps p.tables e below (s₁.setTop (entryFrame m #[.ref a, .ref b, .int (Int32.ofNat o), .int (Int32.ofNat len), .null] 6)) (T8.setTop (mkF m 45 #[.val (.ref a), .val (.ref b), .val (.int (Int32.ofNat o)), .val (.int (Int32.ofNat len)), .val .null, .val (.ref s.heap.size)] [.int (Int32.ofNat N.slots.size), .ref s.heap.size, .ref a])) := by
    have hc : Steps p.tables e below (s₁.setTop (entryFrame m #[.ref a, .ref b, .int (Int32.ofNat o), .int (Int32.ofNat len), .null] 6)) (T8.setTop (mkF m 45 #[.val (.ref a), .val (.ref b), .val (.int (Int32.ofNat o)), .val (.int (Int32.ofNat len)), .val .null, .val (.ref s.heap.size)] [.int (Int32.ofNat len), .ref s.heap.size, .ref a])) := c9.trans (by
      refine XS.astore X8.here hexec rfl (hb hbytes d39) rfl rfl rfl ?_
      refine XS.aloadN X8.here hexec rfl (hb hbytes d41) rfl rfl ?_
      refine XS.aload X8.here hexec rfl (hb hbytes d42) rfl rfl ?_
      refine XS.iloadN X8.here hexec rfl (hb hbytes d44) rfl ?_
      exact Steps.refl _)
    rw [n4]; exact hc
  obtain ⟨v11, T11, X11, E11, g11⟩ := X8.callS hexec (CodL.law l s.heap.size N) hown (wks W (staticW "java/lang/String" 47 CodL.yN)) (wk W CodL.tab) (W := 1) (Nat.le_of_ble_eq_true rfl) (Nat.le_of_ble_eq_true rfl) (Nat.le_refl _) (by show 0 + len + 0 ≤ len; omega) (g := (mkF m 45 #[.val (.ref a), .val (.ref b), .val (.int (Int32.ofNat o)), .val (.int (Int32.ofNat len)), .val .null, .val (.ref s.heap.size)] [.int (Int32.ofNat N.slots.size), .ref s.heap.size, .ref a])) rfl (by rw [hml]; rfl) c10 (argsL := [.ref s.heap.size, .int (Int32.ofNat N.slots.size)]) (rest := [.ref a]) rfl rfl (by show 2 * 0 + (1 + 0) ≤ _; decide) (hb hbytes d45) (⟨rfl, n1⟩)
  obtain ⟨rfl, q11⟩ := E11
  have hB11 := hB1.mv (X8.warmed.alike.symm.trans X11.warmed.alike) q11
  have c12 : Steps p.tables e below (s₁.setTop (entryFrame m #[.ref a, .ref b, .int (Int32.ofNat o), .int (Int32.ofNat len), .null] 6)) (T11.setTop (mkF m 48 #[.val (.ref a), .val (.ref b), .val (.int (Int32.ofNat o)), .val (.int (Int32.ofNat len)), .val .null, .val (.ref s.heap.size)] [.int 0, .ref a])) := g11
  obtain ⟨T13, X13, p13, bl13, sl13, st13⟩ := X11.finit hexec hown (wk W (.fieldLink "java/lang/String" 15 "java/lang/String" "coder" "B")) (Or.inr ⟨_, (wk W (.laysFinal "java/lang/String" "java/lang/String" "coder" "B"))⟩) (Or.inl ⟨rfl, hnm⟩) f2 (Or.inl rfl) hB11 (t := .byte) (by decide +kernel) rfl (g := (mkF m 48 #[.val (.ref a), .val (.ref b), .val (.int (Int32.ofNat o)), .val (.int (Int32.ofNat len)), .val .null, .val (.ref s.heap.size)] [.int 0, .ref a])) rfl (rest := []) rfl (hb hbytes d48)
  have c14 : Steps p.tables e below (s₁.setTop (entryFrame m #[.ref a, .ref b, .int (Int32.ofNat o), .int (Int32.ofNat len), .null] 6)) (T13.setTop (mkF m 54 #[.val (.ref a), .val (.ref b), .val (.int (Int32.ofNat o)), .val (.int (Int32.ofNat len)), .val .null, .val (.ref s.heap.size)] [.ref s.heap.size, .ref a])) := (c12.trans (st13 _ (Steps.refl _))).trans (by
    refine XS.aloadN X13.here hexec rfl (hb hbytes d51) rfl rfl ?_
    refine XS.aload X13.here hexec rfl (hb hbytes d52) rfl rfl ?_
    exact Steps.refl _)
  obtain ⟨T15, X15, p15, bl15, sl15, st15⟩ := X13.finit hexec hown (wk W (.fieldLink "java/lang/String" 9 "java/lang/String" "value" "[B")) (Or.inr ⟨_, (wk W (.laysFinal "java/lang/String" "java/lang/String" "value" "[B"))⟩) (Or.inl ⟨rfl, hnm⟩) f1 (Or.inl rfl) bl13 (t := (.array .byte)) (by decide +kernel) rfl (g := (mkF m 54 #[.val (.ref a), .val (.ref b), .val (.int (Int32.ofNat o)), .val (.int (Int32.ofNat len)), .val .null, .val (.ref s.heap.size)] [.ref s.heap.size, .ref a])) rfl (rest := []) rfl (hb hbytes d54)
  have c16 : Steps p.tables e below (s₁.setTop (entryFrame m #[.ref a, .ref b, .int (Int32.ofNat o), .int (Int32.ofNat len), .null] 6)) (T15.setTop (mkF m 57 #[.val (.ref a), .val (.ref b), .val (.int (Int32.ofNat o)), .val (.int (Int32.ofNat len)), .val .null, .val (.ref s.heap.size)] [])) := c14.trans (st15 _ (Steps.refl _))
  have ap := apart (Or.inr ⟨_, (wk W (.laysFinal "java/lang/String" "java/lang/String" "value" "[B"))⟩) (Or.inr ⟨_, (wk W (.laysFinal "java/lang/String" "java/lang/String" "coder" "B"))⟩) f1 f2 (t₁ := .array .byte) (t₂ := .byte) (by decide +kernel) (by decide +kernel) (by decide)
  have al := X8.warmed.alike.symm.trans X15.warmed.alike
  have n7 : T11.heap[s.heap.size]? = some N := by rw [q11]; exact n1.1
  exact ⟨T15, none, _, _, _, X15, by simp, rfl, by omega, (fun _ => rfl), ⟨rfl, _, N, bl15, ((Same.refl D _).set _ (by simp)).set _ (by simp), sl15, (Cell.slots_setSlot_ne _ ap).trans sl13, n1.keep al (p15.other hne (p13.other hne n7)), n2, by rw [al.findClass]; exact n3, n4, n5, fun y c h1 h2 => p15.other h1 (p13.other h1 (by rw [q11]; exact n6 y c h2)), by rw [p15.2.2, p13.2.2, q11]; exact z8⟩, fun fs hl => c16.trans (X15.returnOut hexec hret (hb hbytes d57) hl)⟩
end New4
namespace New1
def yN : MethodName := ⟨"java/lang/String", "<init>", "([C)V"⟩
abbrev yB : ByteArray := jdk_42_method_3_code
theorem d0 : decode yB 0 = .ok (.aload_n 0, 1) := by decide +kernel
theorem d1 : decode yB 1 = .ok (.aload_n 1, 1) := by decide +kernel
theorem d2 : decode yB 2 = .ok (.iconst 0, 1) := by decide +kernel
theorem d3 : decode yB 3 = .ok (.aload_n 1, 1) := by decide +kernel
theorem d4 : decode yB 4 = .ok (.arraylength, 1) := by decide +kernel
theorem d5 : decode yB 5 = .ok (.aconst_null, 1) := by decide +kernel
theorem d6 : decode yB 6 = .ok (.invokespecial 27, 3) := by decide +kernel
theorem d9 : decode yB 9 = .ok (.return_, 1) := by decide +kernel
def site : List Cond := [New4.tab] ++ initW "java/lang/String" 27 New4.yN
def tab : Cond := tabOf yN yB 2 none site
def P (a : Addr) (D : Cell) (fV fC : Field) (b : Addr) (A : Cell) (z : Int32) (args : Array Value) (s : State) : Prop := args = #[.ref a, .ref b] ∧ Blank "java/lang/String" a D s ∧ Found "java/lang/String" "value" "[B" fV s ∧ Found "java/lang/String" "coder" "B" fC s ∧ Ch b A s ∧ StaticIs s "java/lang/String" "COMPACT_STRINGS" "Z" (.int z) ∧ ¬ z = 0 ∧ 0 < A.slots.size ∧ A.slots.size ≤ 536870912 ∧ ∀ i, i < A.slots.size → ¬ 255 < cv A i
def E (a : Addr) (D : Cell) (fV fC : Field) (A : Cell) (r : Option Value) (s u : State) : Prop := Got a D fV fC A 0 A.slots.size r s u
/-- new String(chars), not empty, no char above 255: a Latin-1 String of their low bytes -/
theorem law (l : Launch) (a : Addr) (D : Cell) (fV fC : Field) (b : Addr) (A : Cell) (z : Int32) : Law l yN 2 1 3 52 yB 2 none site (P a D fV fC b A z) (E a D fV fC A) [⟨a, fC.slot⟩, ⟨a, fV.slot⟩] 1 A.slots.size := by
  refine Law.of_walk (plainFor_of_name (by decide +kernel)) (by decide +kernel) (by decide +kernel) (by decide) (fun _ _ h => by rw [h.1]; rfl) (fun _ U U' hal hh h => ⟨h.1, h.2.1.mv hal hh, h.2.2.1.al hal, h.2.2.2.1.al hal, h.2.2.2.2.1.mv hal hh, h.2.2.2.2.2.1.there hal hh, h.2.2.2.2.2.2⟩) (fun r U U' V V' h1 hal h2 h => Got.mv r U U' V V' h1 hal h2 h) ?_
  intro p e s m args below meth c s₁ X0 hexec hbytes hml hret hlk hnm hown hh0 W hP
  obtain ⟨rfl, hB, f1, f2, hA, s1, hz, l0, l2, hp⟩ := hP
  have c1 : Steps p.tables e below (s₁.setTop (entryFrame m #[.ref a, .ref b] 2)) (s₁.setTop (mkF m 0 #[.val (.ref a), .val (.ref b)] [])) := entry rfl
  have c2 : Steps p.tables e below (s₁.setTop (entryFrame m #[.ref a, .ref b] 2)) (s₁.setTop (mkF m 6 #[.val (.ref a), .val (.ref b)] [.null, .int (Int32.ofNat A.slots.size), .int 0, .ref b, .ref a])) := c1.trans (by
    refine XS.aloadN X0.here hexec rfl (hb hbytes d0) rfl rfl ?_
    refine XS.aloadN X0.here hexec rfl (hb hbytes d1) rfl rfl ?_
    refine iconstV X0.here hexec rfl 0 (hb hbytes d2) (by decide) ?_
    refine XS.aloadN X0.here hexec rfl (hb hbytes d3) rfl rfl ?_
    refine X0.alen hexec (hA.1.mv X0.warmed.alike hh0) rfl rfl (hb hbytes d4) ?_
    refine XS.aconstNull X0.here hexec rfl (hb hbytes d5) ?_
    exact Steps.refl _)
  obtain ⟨v3, T3, X3, E3, g3⟩ := X0.callN hexec (New4.law l a D fV fC b A z 0 A.slots.size) rfl hown (wks W (initW "java/lang/String" 27 New4.yN)) (W New4.tab (by simp only [site, List.mem_cons, List.mem_append, true_or, or_true])) (W := 0) (Nat.le_of_ble_eq_true rfl) (Nat.le_of_ble_eq_true rfl) (Nat.le_refl _) (by show 0 + A.slots.size ≤ A.slots.size; omega) (g := (mkF m 6 #[.val (.ref a), .val (.ref b)] [.null, .int (Int32.ofNat A.slots.size), .int (Int32.ofNat 0), .ref b, .ref a])) rfl (by rw [hml]; rfl) c2 (argsL := [.ref b, .int (Int32.ofNat 0), .int (Int32.ofNat A.slots.size), .null]) (rest := []) rfl rfl (by show 2 * 0 + 0 ≤ _; decide) (hb hbytes d6) (⟨rfl, hB.mv X0.warmed.alike hh0, f1.al X0.warmed.alike, f2.al X0.warmed.alike, hA.mv X0.warmed.alike hh0, s1.there X0.warmed.alike hh0, hz, l0, by omega, l2, fun i hi => by rw [Nat.zero_add]; exact hp i hi⟩)
  have e0 := Got.mv _ s₁ s _ _ hh0.symm (Vm.Alike.refl _) rfl E3
  obtain rfl := e0.1
  have c4 : Steps p.tables e below (s₁.setTop (entryFrame m #[.ref a, .ref b] 2)) (T3.setTop (mkF m 9 #[.val (.ref a), .val (.ref b)] [])) := g3
  exact ⟨T3, none, _, _, _, X3, by simp, rfl, by omega, (fun _ => rfl), e0, fun fs hl => c4.trans (X3.returnOut hexec hret (hb hbytes d9) hl)⟩
theorem pays {l : Launch} {R : Room} {p : Program} {e : Env} {below : List Frame} {s : State} {sargs : Array Value} {len W : Nat} (a : Addr) (D : Cell) (fV fC : Field) (b : Addr) (A : Cell) (z : Int32) (htab : tab.before sargs s = true) (hfr : 4 ≤ R.frames) (hlo : W + 65 ≤ R.locals) :
    Back l R p e below s sargs yN len W (fun A₁ a₁ => A₁.cells + 1 ≤ R.cells ∧ A₁.slots + A.slots.size ≤ R.slots ∧ P a D fV fC b A z a₁ A₁.U) (fun A₁ _ v₁ B₁ => E a D fV fC A v₁ A₁.U B₁.U ∧ B₁.locs = A₁.locs ++ [⟨a, fC.slot⟩, ⟨a, fV.slot⟩] ∧ B₁.cells = A₁.cells + 1 ∧ B₁.slots = A₁.slots + A.slots.size) :=
  (law l a D fV fC b A z).pays htab hfr (by omega)
end New1
end StrChars
namespace StrChars.Road
open Jvm Sem ClassFile Op Lib Jvm.Stand Jvm.Free Jvm.Free.XT
open Jvm.Lib.Cold (StaticIs)
abbrev ST : String := "java/lang/String"
/-- every table word that New1's law asks, flat -/
abbrev words : List Jvm.Cond := [.code New1.yN New1.yB 2 none, .initialized ST, .methodLink ST 27 New4.yN, .instanceMethod New4.yN,
  .code New4.yN New4.yB 6 none, .fieldLink ST 38 ST "COMPACT_STRINGS" "Z", .laysFinal ST ST "value" "[B", .fieldLink ST 9 ST "value" "[B", .laysFinal ST ST "coder" "B", .fieldLink ST 15 ST "coder" "B",
  .methodLink ST 1 Lib.objectInit, .instanceMethod Lib.objectInit, .code Lib.objectInit ⟨#[0xb1]⟩ 1 none, .methodLink ST 177 Cmp3.yN, .static Cmp3.yN, .methodLink ST 47 CodL.yN, .static CodL.yN,
  .code Cmp3.yN Cmp3.yB 6 (some (.array .byte)), .initialized U16, .arrayClass .byte, .methodLink U16 115 Cmp5.yN, .static Cmp5.yN, .code Cmp5.yN Cmp5.yB 7 (some .int), .code CodL.yN CodL.yB 2 (some .byte)]
theorem tab_of {a : Array Value} {s : State} (h : ∀ w ∈ words, w.before a s = true) : New1.tab.before a s = true := by
  have h5 : Cmp5.tab.before a s = true := unparts (wk h (.code Cmp5.yN Cmp5.yB 7 (some .int))) (wks h (.initialized Cmp5.yN.cls :: Cmp5.site))
  have hc : CodL.tab.before a s = true := unparts (wk h (.code CodL.yN CodL.yB 2 (some .byte))) (wks h (.initialized CodL.yN.cls :: CodL.site))
  have q5 : ∀ w ∈ Cmp5.tab :: words, w.before a s = true := fun w hw => (List.mem_cons.mp hw).elim (fun e => e ▸ h5) (h w)
  have h3 : Cmp3.tab.before a s = true := unparts (wk q5 (.code Cmp3.yN Cmp3.yB 6 (some (.array .byte)))) (wks q5 (.initialized Cmp3.yN.cls :: Cmp3.site))
  have q3 : ∀ w ∈ Cmp3.tab :: CodL.tab :: words, w.before a s = true := fun w hw => (List.mem_cons.mp hw).elim (fun e => e ▸ h3) fun hw => (List.mem_cons.mp hw).elim (fun e => e ▸ hc) (h w)
  have h4 : New4.tab.before a s = true := unparts (wk q3 (.code New4.yN New4.yB 6 none)) (wks q3 (.initialized New4.yN.cls :: New4.site))
  have q4 : ∀ w ∈ New4.tab :: words, w.before a s = true := fun w hw => (List.mem_cons.mp hw).elim (fun e => e ▸ h4) (h w)
  exact unparts (wk q4 (.code New1.yN New1.yB 2 none)) (wks q4 (.initialized New1.yN.cls :: New1.site))
/-- the words ride from the start Z to the walk's own state -/
theorem moved {Z s : State} {a0 args : Array Value} (hZ : Z.Warmed39 s.vm) (hw : ∀ d ∈ words, d.before a0 Z = true) : ∀ d ∈ words, d.before args s = true := fun d hd => by
  have q := hw d hd
  have t : ∀ d ∈ words, d = .arrayClass .byte ∨ (d.onTables && d.keepsFace) = true := by decide +kernel
  rcases t d hd with rfl | t
  · exact RoadKit.mvA hZ q
  · exact RoadKit.mv hZ q t
/-- WHAT COMES BACK, over the tables of the start Z: h the heap at the call, h' behind it -/
def Q (Z : State) (x : Addr) (A : Cell) (h : Heap) (v : Option Value) (h' : Heap) (L : List Loc) : Prop := v = none ∧ (∀ y ∈ L, y.base = x) ∧ RoadKit.Keep h h' [x] ∧ h'.size = h.size + 1 ∧ RoadKit.Exa Z h' x ST ∧ RoadKit.Fld Z h' x ST "value" "[B" (.ref h.size) ∧ RoadKit.Fld Z h' x ST "coder" "B" (.int 0) ∧
  (∃ V : Cell, RoadKit.Arr Z h' h.size V .byte ∧ V.vm = .none ∧ Z.vm.findClass "[B" = some V.cls ∧ V.slots.size = A.slots.size ∧ ∀ j, j < A.slots.size → V.slots[j]? = some (.int (lo8 (cv A j)))) ∧
  ∀ (O n d : String) (w : Value), RoadKit.Fld Z h x O n d w → RoadKit.slotOf Z O n d ≠ RoadKit.slotOf Z ST "value" "[B" → RoadKit.slotOf Z O n d ≠ RoadKit.slotOf Z ST "coder" "B" → RoadKit.Fld Z h' x O n d w
/-- **new String(chars) AT A CALL, IN THE ROAD'S FORM**: for specialBack behind newO: x the fresh String, b the char[] with the cell A -/
theorem back {p : Program} {l : Launch} {e : Env} {R : Room} {s : State} {args : Array Value} {below : List Frame} {len W : Nat} {Z : State} {a0 : Array Value} {h : Heap} (hZ : Z.Warmed39 s.vm) (hw : ∀ d ∈ words, d.before a0 Z = true) {kI : Nat} (wi : (Jvm.Cond.instantiable ST kI).before a0 Z = true)
    {x b : Addr} {A : Cell} {z : Int32} {v0 c0 : Value} (E : RoadKit.Exa Z h x ST) (V : RoadKit.Fld Z h x ST "value" "[B" v0) (C : RoadKit.Fld Z h x ST "coder" "B" c0) (K : RoadKit.Arr Z h b A .char) (hty : Typed .char A) (S : RoadKit.Sta Z h ST "COMPACT_STRINGS" "Z" (.int z)) (hz : ¬ z = 0)
    (l0 : 0 < A.slots.size) (l2 : A.slots.size ≤ 536870912) (hp : ∀ i, i < A.slots.size → ¬ 255 < cv A i) (hfr : 4 ≤ R.frames) (hlo : W + 65 ≤ R.locals) :
    Back l R p e below s args New1.yN len W (fun P a => a = #[.ref x, .ref b] ∧ P.U.heap = h ∧ P.cells + 1 ≤ R.cells ∧ P.slots + A.slots.size ≤ R.slots)
      (fun P _ v B => ∃ L, Q Z x A h v B.U.heap L ∧ B.locs = P.locs ++ L ∧ B.cells = P.cells + 1 ∧ B.slots = P.slots + A.slots.size) := by
  intro m meth c P g ig mk a X hg hsize hdg hW hn hp'
  obtain ⟨rfl, rfl, r1, r2⟩ := hp'
  have al : Z.vm.Alike P.U.vm := hZ.alike.trans X.warmed.alike
  obtain ⟨D, cfV, kV, iV, fV, hD, gV, stV, knV, obV, asV, slV⟩ := id V
  obtain ⟨D', cfC, kC, iC, fC, hD', gC, stC, -, -, asC, slC⟩ := id C
  cases hD.symm.trans hD'
  obtain ⟨D2, kD, e1, e2, e3, e4, e5⟩ := id E
  cases hD.symm.trans e1
  obtain ⟨c2, k2, i1, i2, i3, -⟩ := Cond.instantiable_spec wi
  cases e2.symm.trans i1
  cases e3.symm.trans i2
  obtain ⟨kU, u1, u2⟩ := al.2.2 _ _ e3
  have hB : Blank ST x D P.U := ⟨hD, ⟨knV, fun q hq => by rw [hq] at obV; cases obV⟩, by rw [al.findClass]; exact e2, kU, u1, by rw [u2]; exact i3, by rw [u2]; exact e5 i3⟩
  have F1 : Found ST "value" "[B" fV P.U := ⟨SBG.found_only al ⟨cfV, kV, iV, gV⟩, stV⟩
  have F2 : Found ST "coder" "B" fC P.U := ⟨SBG.found_only al ⟨cfC, kC, iC, gC⟩, stC⟩
  have hA : Ch b A P.U := ⟨⟨K.1, State.isArrayOf_alike al K.2.1, K.2.2, by omega⟩, hty⟩
  have hS : StaticIs P.U ST "COMPACT_STRINGS" "Z" (.int z) := by
    obtain ⟨cfS, iS, kS, fS, st, cS, t1, t2, t3, t4, t5, t6, t7⟩ := S
    exact StaticIs.there (s := { Z with heap := P.U.heap }) ⟨cfS, iS, kS, fS, st, cS, t1, t2, t3, t4, t5, (fun q => by rw [q] at t6; cases t6), t7⟩ al rfl
  obtain ⟨v, B, X', ⟨⟨hv, E', V', q1, q2, q3, q4, q5, q6, q7, q8, q9, q10, q11⟩, hl, hc, hs⟩, st⟩ := New1.pays x D fV fC b A z (tab_of (moved hZ hw)) hfr hlo m meth c P g ig mk _ X hg hsize hdg hW hn ⟨r1, r2, rfl, hB, F1, F2, hA, hS, hz, l0, l2, hp⟩
  have al' : Z.vm.Alike B.U.vm := hZ.alike.trans X'.warmed.alike
  have hsz : E'.slots.size = D.slots.size := by
    obtain ⟨-, -, -, kB, w1, w2, w3⟩ := q1
    obtain ⟨kB', y1, y2⟩ := al'.2.2 _ _ e3
    rw [q2.2.1] at w1
    cases w1.symm.trans y1
    rw [w3, e5 i3, y2]
  refine ⟨v, B, X', ⟨_, ⟨hv, ?_, ⟨by omega, fun y cy hy hn' => q10 y cy (by simpa using hn') hy, fun y cy hy => ?_⟩, q11, ⟨E', _, q1.1, by rw [q2.2.1]; exact e2, by rw [q2.2.1]; exact e3, by rw [q2.1]; exact obV, fun _ => by rw [hsz]; exact e5 i3⟩,
    ⟨E', cfV, kV, iV, fV, q1.1, gV, stV, by rw [q2.1]; exact knV, by rw [q2.1]; exact obV, by rw [q2.2.1]; exact asV, q3⟩, ⟨E', cfC, kC, iC, fC, q1.1, gC, stC, by rw [q2.1]; exact knV, by rw [q2.1]; exact obV, by rw [q2.2.1]; exact asC, q4⟩,
    ⟨V', ⟨q5.1, State.isArrayOf_alike al'.symm q5.2.1, q5.2.2.1⟩, q6, by rw [← al'.findClass]; exact q7, q8, fun j hj => by have := q9 j hj; rwa [Nat.zero_add] at this⟩, fun O n d w F n1 n2 => ?_⟩, hl, hc, hs⟩, st⟩
  · intro y hy
    simp only [List.mem_cons, List.not_mem_nil, or_false] at hy
    rcases hy with rfl | rfl <;> rfl
  · by_cases q : y = x
    · subst q
      cases hD.symm.trans hy
      exact ⟨E', q1.1, q2.2.1, q2.1, hsz⟩
    · exact ⟨cy, q10 y cy q hy, rfl, rfl, rfl⟩
  · obtain ⟨D3, cf, k, i, f, g1, g2, g3, g4, g5, g6, g7⟩ := F
    cases hD.symm.trans g1
    simp only [RoadKit.slotOf, g2, gV, gC, Option.map_some, Option.getD_some] at n1 n2
    exact ⟨E', cf, k, i, f, q1.1, g2, g3, by rw [q2.1]; exact g4, by rw [q2.1]; exact g5, by rw [q2.2.1]; exact g6, by rw [q2.2.2 f.slot (by simp [n1, n2])]; exact g7⟩
end StrChars.Road
namespace StrChars.Road
open Jvm Sem ClassFile Op Lib Jvm.Stand Jvm.Free Jvm.Free.XT
/-- WHAT COMES BACK, the byte[] as a list of values -/
def QA (Z : State) (x : Addr) (zn : Int32) (cs : List Int32) (h : Heap) (v : Option Value) (h' : Heap) (L : List Loc) : Prop := v = none ∧ (∀ y ∈ L, y.base = x) ∧ RoadKit.Keep h h' [x] ∧ h'.size = h.size + 1 ∧ RoadKit.Exa Z h' x ST ∧ RoadKit.Fld Z h' x ST "value" "[B" (.ref h.size) ∧ RoadKit.Fld Z h' x ST "coder" "B" (.int 0) ∧
  (∃ kb, Z.vm.findClass "[B" = some kb ∧ RoadKit.Arv Z h' h.size kb .byte zn (cs.map fun c => .int (lo8 c)) (.int 0)) ∧
  ∀ (O n d : String) (w : Value), RoadKit.Fld Z h x O n d w → RoadKit.slotOf Z O n d ≠ RoadKit.slotOf Z ST "value" "[B" → RoadKit.slotOf Z O n d ≠ RoadKit.slotOf Z ST "coder" "B" → RoadKit.Fld Z h' x O n d w
/-- **new String(chars) AT A CALL, THE ARRAYS AS LISTS**: the char[] at b holds cs, not empty, no char above 255 -/
theorem backArv {p : Program} {l : Launch} {e : Env} {R : Room} {s : State} {args : Array Value} {below : List Frame} {len W : Nat} {Z : State} {a0 : Array Value} {h : Heap} (hZ : Z.Warmed39 s.vm) (hw : ∀ d ∈ words, d.before a0 Z = true) {kI : Nat} (wi : (Jvm.Cond.instantiable ST kI).before a0 Z = true)
    {x b : Addr} {k : ClassId} {zn z : Int32} {cs : List Int32} {dv v0 c0 : Value} (E : RoadKit.Exa Z h x ST) (V : RoadKit.Fld Z h x ST "value" "[B" v0) (C : RoadKit.Fld Z h x ST "coder" "B" c0) (K : RoadKit.Arv Z h b k .char zn (cs.map Value.int) dv) (S : RoadKit.Sta Z h ST "COMPACT_STRINGS" "Z" (.int z)) (hz : ¬ z = 0)
    (hlen : zn.toNatClampNeg = cs.length) (h0 : 0 < cs.length) (hbig : cs.length ≤ 536870912) (hall : ∀ c ∈ cs, ¬ 255 < c) (hfr : 4 ≤ R.frames) (hlo : W + 65 ≤ R.locals) :
    Back l R p e below s args New1.yN len W (fun P a => a = #[.ref x, .ref b] ∧ P.U.heap = h ∧ P.cells + 1 ≤ R.cells ∧ P.slots + cs.length ≤ R.slots)
      (fun P _ v B => ∃ L, QA Z x zn cs h v B.U.heap L ∧ B.locs = P.locs ++ L ∧ B.cells = P.cells + 1 ∧ B.slots = P.slots + cs.length) := by
  obtain ⟨A, K1, K2, K3, K4, K5, K6⟩ := K
  have e : A.slots.size = cs.length := K3.trans hlen
  have hat : ∀ (i : Nat) (hi : i < cs.length), A.slots[i]? = some (.int cs[i]) := fun i hi => by rw [K5 i (by omega)]; simp [List.getD_eq_getElem?_getD, hi]
  have hcv : ∀ (i : Nat) (hi : i < cs.length), cv A i = cs[i] := fun i hi => by unfold cv; rw [hat i hi]
  have hty : Typed .char A := fun i v hv => by
    have hi : i < A.slots.size := (Array.getElem?_eq_some_iff.mp hv).1
    have q := K5 i hi
    rw [hv] at q
    rw [Option.some.inj q]
    exact K6 i hi
  refine Back.mono (back hZ hw wi E V C K1 hty S hz (by omega) (by omega) (fun i hi => by rw [hcv i (by omega)]; exact hall _ (List.getElem_mem _)) hfr hlo) (fun P a hp => ⟨hp.1, hp.2.1, hp.2.2.1, by rw [e]; exact hp.2.2.2⟩) (fun P a v B hp hq => ?_)
  obtain ⟨L, ⟨q1, q2, q3, q4, q5, q6, q7, ⟨V', v1, v2, v3, v4, v5⟩, q9⟩, hl, hc, hs⟩ := hq
  refine ⟨L, ⟨q1, q2, q3, q4, q5, q6, q7, ⟨V'.cls, v3, V', v1, rfl, by rw [v4, e, hlen], K4, fun i hi => ?_, fun i hi => ?_⟩, q9⟩, hl, hc, by rw [hs, e]⟩
  · have hi' : i < cs.length := by omega
    rw [v5 i (by omega), hcv i hi']; simp [List.getD_eq_getElem?_getD, hi']
  · have hi' : i < cs.length := by omega
    simp only [List.getD_eq_getElem?_getD, List.getElem?_map, List.getElem?_eq_getElem hi', Option.map_some, Option.getD_some]
    exact fits_lo8 _
end StrChars.Road
namespace StrChars.Road
open Jvm Sem ClassFile Op Lib Jvm.Stand Jvm.Free Jvm.Free.XT
/-- WHAT COMES BACK, in the writer's own shape -/
def QV (Z : State) (x : Addr) (N : Int32) (bs : List Int32) (h : Heap) (n0 : Nat) (v : Option Value) (h' : Heap) (L : List Loc) : Prop := v = none ∧ RoadKit.Fr n0 L ∧ RoadKit.Keep h h' [x] ∧ RoadKit.Exa Z h' x ST ∧ RoadKit.Fld Z h' x ST "coder" "B" (.int 0) ∧
  ∃ (t : Addr) (kb : ClassId), n0 ≤ t ∧ h.size ≤ t ∧ ¬ t = x ∧ RoadKit.Fld Z h' x ST "value" "[B" (.ref t) ∧ RoadKit.Arv Z h' t kb .byte N (bs.map Value.int) (.int 0)
/-- **new String(chars) AT A CALL, FOR THE WRITER**: a char[] of n known ints, each 0 to 255 -/
theorem backV {p : Program} {l : Launch} {e : Env} {R : Room} {s : State} {args : Array Value} {below : List Frame} {len W : Nat} {Z : State} {a0 : Array Value} {h : Heap} (hZ : Z.Warmed39 s.vm) (hw : ∀ d ∈ words, d.before a0 Z = true) {kI : Nat} (wi : (Jvm.Cond.instantiable ST kI).before a0 Z = true)
    {x b : Addr} {kC : ClassId} {cs bs : List Int32} {d v0 c0 : Value} {z N : Int32} {n n0 : Nat} (hx0 : n0 ≤ x) (hh0 : n0 ≤ h.size) (E : RoadKit.Exa Z h x ST) (V : RoadKit.Fld Z h x ST "value" "[B" v0) (C : RoadKit.Fld Z h x ST "coder" "B" c0) (K : RoadKit.Arv Z h b kC .char N (cs.map Value.int) d) (S : RoadKit.Sta Z h ST "COMPACT_STRINGS" "Z" (.int z)) (hz : ¬ z = 0)
    (hn : cs.length = n) (hN : N = Int32.ofNat n) (l0 : 0 < n) (l2 : n ≤ 4000) (hp : ∀ c ∈ cs, ¬ c < 0 ∧ ¬ (255 : Int32) < c) (hb : bs = cs.map (fun c => c.toInt8.toInt32)) (hfr : 4 ≤ R.frames) (hlo : W + 65 ≤ R.locals) :
    Back l R p e below s args (⟨"java/lang/String", "<init>", "([C)V"⟩ : MethodName) len W (fun P a => a = #[.ref x, .ref b] ∧ P.U.heap = h ∧ P.cells + 1 ≤ R.cells ∧ P.slots + n ≤ R.slots)
      (fun P _ v B => ∃ L, QV Z x N bs h n0 v B.U.heap L ∧ B.locs = P.locs ++ L ∧ B.cells = P.cells + 1 ∧ B.slots = P.slots + n) := by
  subst hn hN hb
  refine Back.mono (backArv hZ hw wi E V C K S hz (n32 (by omega)) l0 (by omega) (fun c hc => (hp c hc).2) hfr hlo) (fun P a hp => hp) (fun P a v B hp hq => ?_)
  obtain ⟨L, ⟨q1, q2, q3, q4, q5, q6, q7, ⟨kb, v1, v2⟩, q9⟩, hl, hc, hs⟩ := hq
  exact ⟨L, ⟨q1, fun y hy => by rw [q2 y hy]; exact hx0, q3, q5, q7, h.size, kb, hh0, Nat.le_refl _, Nat.ne_of_gt E.lt, q6, by rw [List.map_map]; exact v2⟩, hl, hc, hs⟩
end StrChars.Road
end Jvm.Pilot.@@N@@
namespace Jvm.Pilot.@@N@@
open Jvm Jvm.ClassFile Sem Op Lib Jvm.Free Jvm.Stand Jvm.LawKit Jvm.RoadKit Bundle Jvm.Pilot.@@N@@.Jvm.D
theorem own_pn67401721 : plainFor (⟨"com/example/weaverbird/weaverbird/sql/ItemColumn", "<init>", "(IILcom/example/weaverbird/weaverbird/sql/SqlText;Ljava/lang/String;IZLjava/util/List;)V"⟩ : MethodName) = true := by first | exact Jvm.Free.JP.mathPlain rfl (by decide +kernel) | exact plainFor_of_name (by first | (simp [plainName, overriddenIn]; done) | decide +kernel) | decide +kernel
theorem own_d2_0 : decode prog_110_method_3_code 0 = .ok (.aload_n 0, 1) := by decide +kernel
theorem own_d2_1 : decode prog_110_method_3_code 1 = .ok (.invokespecial 7, 3) := by decide +kernel
theorem own_d2_4 : decode prog_110_method_3_code 4 = .ok (.aload_n 0, 1) := by decide +kernel
theorem own_d2_5 : decode prog_110_method_3_code 5 = .ok (.iload_n 1, 1) := by decide +kernel
theorem own_d2_6 : decode prog_110_method_3_code 6 = .ok (.putfield 12, 3) := by decide +kernel
theorem own_d2_9 : decode prog_110_method_3_code 9 = .ok (.aload_n 0, 1) := by decide +kernel
theorem own_d2_10 : decode prog_110_method_3_code 10 = .ok (.iload_n 2, 1) := by decide +kernel
theorem own_d2_11 : decode prog_110_method_3_code 11 = .ok (.putfield 16, 3) := by decide +kernel
theorem own_d2_14 : decode prog_110_method_3_code 14 = .ok (.aload_n 0, 1) := by decide +kernel
theorem own_d2_15 : decode prog_110_method_3_code 15 = .ok (.aload_n 3, 1) := by decide +kernel
theorem own_d2_16 : decode prog_110_method_3_code 16 = .ok (.putfield 19, 3) := by decide +kernel
theorem own_d2_19 : decode prog_110_method_3_code 19 = .ok (.aload_n 0, 1) := by decide +kernel
theorem own_d2_20 : decode prog_110_method_3_code 20 = .ok (.aload 4, 2) := by decide +kernel
theorem own_d2_22 : decode prog_110_method_3_code 22 = .ok (.putfield 23, 3) := by decide +kernel
theorem own_d2_25 : decode prog_110_method_3_code 25 = .ok (.aload_n 0, 1) := by decide +kernel
theorem own_d2_26 : decode prog_110_method_3_code 26 = .ok (.iload 5, 2) := by decide +kernel
theorem own_d2_28 : decode prog_110_method_3_code 28 = .ok (.putfield 27, 3) := by decide +kernel
theorem own_d2_31 : decode prog_110_method_3_code 31 = .ok (.aload_n 0, 1) := by decide +kernel
theorem own_d2_32 : decode prog_110_method_3_code 32 = .ok (.iload 6, 2) := by decide +kernel
theorem own_d2_34 : decode prog_110_method_3_code 34 = .ok (.putfield 30, 3) := by decide +kernel
theorem own_d2_37 : decode prog_110_method_3_code 37 = .ok (.aload_n 0, 1) := by decide +kernel
theorem own_d2_38 : decode prog_110_method_3_code 38 = .ok (.aload 7, 2) := by decide +kernel
theorem own_d2_40 : decode prog_110_method_3_code 40 = .ok (.putfield 34, 3) := by decide +kernel
theorem own_d2_43 : decode prog_110_method_3_code 43 = .ok (.return_, 1) := by decide +kernel
theorem own_ef_rm_init7 (m : MethodId) (x0 : Addr) (x1 : Int32) (x2 : Int32) (x3 : Value) (hx3 : x3.isRef = true) (x5 : Int32) (x6 : Int32) (x7 : Value) (hx7 : x7.isRef = true) : entryFrame m #[(.ref x0), (.int x1), (.int x2), x3, .null, (.int x5), (.int x6), x7] 8 = mkF m 0 #[.val (.ref x0), .val (.int x1), .val (.int x2), .val x3, .val .null, .val (.int x5), .val (.int x6), .val x7] [] := by rcases ref_cases hx3 with rfl | ⟨_, rfl⟩ <;> rcases ref_cases hx7 with rfl | ⟨_, rfl⟩ <;> first | (simp [entryFrame, mkF, argsToLocals, Value.category]; done) | rfl
def Q_rm_init7 (Z : State) (a1 : Nat) (p2 : Int32) (p3 : Int32) (r4 : Value) (p6 : Int32) (p7 : Int32) (r8 : Value) (u0 : Value) (u1 : Value) (u2 : Value) (u3 : Value) (u4 : Value) (u5 : Value) (u6 : Value) (h0 : Heap) (n0 : Nat) (v : Option Value) (h : Heap) (L : List Loc) : Prop := v = none ∧ Fr n0 L ∧ Keep h0 h [a1] ∧ Exa Z h a1 "com/example/weaverbird/weaverbird/sql/ItemColumn" ∧ Fld Z h a1 "com/example/weaverbird/weaverbird/sql/ItemColumn" "from" "I" (.int p2) ∧ Fld Z h a1 "com/example/weaverbird/weaverbird/sql/ItemColumn" "to" "I" (.int p3) ∧ Fld Z h a1 "com/example/weaverbird/weaverbird/sql/ItemColumn" "written" "Lcom/example/weaverbird/weaverbird/sql/SqlText;" r4 ∧ Fld Z h a1 "com/example/weaverbird/weaverbird/sql/ItemColumn" "rankKeys" "Ljava/util/List;" r8
set_option maxRecDepth 65536 in
set_option maxHeartbeats 40000000 in
theorem rm_init7 (l : Launch) (Z : State) (a0 : Array Value) (hw : ∀ d ∈ tables_1, d.before a0 Z = true) (a1 : Nat) (p2 : Int32) (p3 : Int32) (r4 : Value) (p6 : Int32) (p7 : Int32) (r8 : Value) (u0 : Value) (u1 : Value) (u2 : Value) (u3 : Value) (u4 : Value) (u5 : Value) (u6 : Value) (h0 : Heap) (n0 : Nat) (Z0 : n0 ≤ h0.size) (pf0 : Exa Z h0 a1 "com/example/weaverbird/weaverbird/sql/ItemColumn") (pf1 : Fld Z h0 a1 "com/example/weaverbird/weaverbird/sql/ItemColumn" "from" "I" u0) (pf2 : Fld Z h0 a1 "com/example/weaverbird/weaverbird/sql/ItemColumn" "to" "I" u1) (pf3 : Fld Z h0 a1 "com/example/weaverbird/weaverbird/sql/ItemColumn" "written" "Lcom/example/weaverbird/weaverbird/sql/SqlText;" u2) (pf4 : Fld Z h0 a1 "com/example/weaverbird/weaverbird/sql/ItemColumn" "label" "Ljava/lang/String;" u3) (pf5 : Fld Z h0 a1 "com/example/weaverbird/weaverbird/sql/ItemColumn" "parameter" "I" u4) (pf6 : Fld Z h0 a1 "com/example/weaverbird/weaverbird/sql/ItemColumn" "aggregateArgument" "Z" u5) (pf7 : Fld Z h0 a1 "com/example/weaverbird/weaverbird/sql/ItemColumn" "rankKeys" "Ljava/util/List;" u6) (hr4 : r4.isRef = true) (hr8 : r8.isRef = true) (g1 : n0 ≤ a1) :
    own_CT l Z (⟨"com/example/weaverbird/weaverbird/sql/ItemColumn", "<init>", "(IILcom/example/weaverbird/weaverbird/sql/SqlText;Ljava/lang/String;IZLjava/util/List;)V"⟩ : MethodName) prog_110_method_3_code 8 none ({ frames := 1, cells := 0, slots := 0, locals := 12 } : Room) #[(.ref a1), (.int p2), (.int p3), r4, .null, (.int p6), (.int p7), r8] h0 (Q_rm_init7 Z a1 p2 p3 r4 p6 p7 r8 u0 u1 u2 u3 u4 u5 u6 h0 n0) := by
  refine own_of own_pn67401721 (Ls := #[.val (.ref a1), .val (.int p2), .val (.int p3), .val r4, .val .null, .val (.int p6), .val (.int p7), .val r8]) (fun m => own_ef_rm_init7 m a1 p2 p3 r4 hr4 p6 p7 r8 hr8) ?_
  intro p e s m below meth c T0 X0 hx hby hml hown hnm hret hZ e0 hlk
  have hown : s.vm.findClass "com/example/weaverbird/weaverbird/sql/ItemColumn" = some m.cls := hown
  have N0 := Fr.nil n0
  have lt_a1 : @LT.lt Nat _ a1 h0.size := pf0.lt
  refine own_via (T0.setTop (mkF m 1 #[.val (.ref a1), .val (.int p2), .val (.int p3), .val r4, .val .null, .val (.int p6), .val (.int p7), .val r8] [(.ref a1)])) (fun t k => XS.aloadN X0.here hx rfl (hb hby own_d2_0) rfl rfl k) ?_
  obtain ⟨T1, X1, e1, st1⟩ := initO X0 hx hZ hown (hw _ (List.mem_of_getElem? (i := 9) rfl)) (hw _ (List.mem_of_getElem? (i := 10) rfl)) (hw _ (List.mem_of_getElem? (i := 11) rfl)) e0 (g := (mkF m 1 #[.val (.ref a1), .val (.int p2), .val (.int p3), .val r4, .val .null, .val (.int p6), .val (.int p7), .val r8] [(.ref a1)])) rfl (by rw [hml]; rfl) rfl (hb hby own_d2_1) (by decide) (W := 0) (by show 2 * 0 + _ ≤ _; exact Nat.le_of_eq rfl) (by decide)
  refine own_via (T1.setTop (mkF m 4 #[.val (.ref a1), .val (.int p2), .val (.int p3), .val r4, .val .null, .val (.int p6), .val (.int p7), .val r8] [])) (st1) ?_
  refine own_via (T1.setTop (mkF m 5 #[.val (.ref a1), .val (.int p2), .val (.int p3), .val r4, .val .null, .val (.int p6), .val (.int p7), .val r8] [(.ref a1)])) (fun t k => XS.aloadN X1.here hx rfl (hb hby own_d2_4) rfl rfl k) ?_
  refine own_via (T1.setTop (mkF m 6 #[.val (.ref a1), .val (.int p2), .val (.int p3), .val r4, .val .null, .val (.int p6), .val (.int p7), .val r8] [(.int p2), (.ref a1)])) (fun t k => XS.iloadN X1.here hx rfl (hb hby own_d2_5) rfl k) ?_
  obtain ⟨T2, h2, X2, e2, W2, st2⟩ := putF X1 hx hZ hown (host := "") (Or.inl (hw _ (List.mem_of_getElem? (i := 12) rfl))) Via.refl e1 pf1 pf0 (Or.inr ⟨(hw _ (List.mem_of_getElem? (i := 13) rfl)), rfl, hnm⟩) (hw _ (List.mem_of_getElem? (i := 1) rfl)) (ty := .int) (by decide) rfl rfl (g := (mkF m 6 #[.val (.ref a1), .val (.int p2), .val (.int p3), .val r4, .val .null, .val (.int p6), .val (.int p7), .val r8] [(.int p2), (.ref a1)])) rfl rfl (hb hby own_d2_6)
  have N2 := Fr.snoc X2 N0 (show @LE.le Nat _ _ _ by omega)
  have sz_h2 : h2.size = h0.size := Wr.size W2
  have K_h2 : Keep h0 h2 [a1] := (Keep.refl h0 [a1]).wr W2 (Or.inl (List.mem_of_getElem? (i := 0) rfl))
  have f3 : Fld Z h2 a1 "com/example/weaverbird/weaverbird/sql/ItemColumn" "from" "I" (.int p2) := (pf1.same W2)
  refine own_via (T2.setTop (mkF m 9 #[.val (.ref a1), .val (.int p2), .val (.int p3), .val r4, .val .null, .val (.int p6), .val (.int p7), .val r8] [])) (st2) ?_
  refine own_via (T2.setTop (mkF m 10 #[.val (.ref a1), .val (.int p2), .val (.int p3), .val r4, .val .null, .val (.int p6), .val (.int p7), .val r8] [(.ref a1)])) (fun t k => XS.aloadN X2.here hx rfl (hb hby own_d2_9) rfl rfl k) ?_
  refine own_via (T2.setTop (mkF m 11 #[.val (.ref a1), .val (.int p2), .val (.int p3), .val r4, .val .null, .val (.int p6), .val (.int p7), .val r8] [(.int p3), (.ref a1)])) (fun t k => XS.iloadN X2.here hx rfl (hb hby own_d2_10) rfl k) ?_
  have f4 : Fld Z h2 a1 "com/example/weaverbird/weaverbird/sql/ItemColumn" "to" "I" u1 := (pf2.other W2 (Or.inr (slot_ne (Or.inr (hw _ (List.mem_of_getElem? (i := 15) rfl))) (Or.inr (hw _ (List.mem_of_getElem? (i := 13) rfl))) (by decide) (t := .int) (t' := .int) (by decide) (by decide))))
  have f5 : Exa Z h2 a1 "com/example/weaverbird/weaverbird/sql/ItemColumn" := (pf0.wr W2)
  obtain ⟨T6, h6, X6, e6, W6, st6⟩ := putF X2 hx hZ hown (host := "") (Or.inl (hw _ (List.mem_of_getElem? (i := 14) rfl))) Via.refl e2 f4 f5 (Or.inr ⟨(hw _ (List.mem_of_getElem? (i := 15) rfl)), rfl, hnm⟩) (hw _ (List.mem_of_getElem? (i := 1) rfl)) (ty := .int) (by decide) rfl rfl (g := (mkF m 11 #[.val (.ref a1), .val (.int p2), .val (.int p3), .val r4, .val .null, .val (.int p6), .val (.int p7), .val r8] [(.int p3), (.ref a1)])) rfl rfl (hb hby own_d2_11)
  have N6 := Fr.snoc X6 N2 (show @LE.le Nat _ _ _ by omega)
  have sz_h6 : h6.size = h2.size := Wr.size W6
  have K_h6 : Keep h0 h6 [a1] := K_h2.wr W6 (Or.inl (List.mem_of_getElem? (i := 0) rfl))
  have f7 : Fld Z h6 a1 "com/example/weaverbird/weaverbird/sql/ItemColumn" "to" "I" (.int p3) := (f4.same W6)
  refine own_via (T6.setTop (mkF m 14 #[.val (.ref a1), .val (.int p2), .val (.int p3), .val r4, .val .null, .val (.int p6), .val (.int p7), .val r8] [])) (st6) ?_
  refine own_via (T6.setTop (mkF m 15 #[.val (.ref a1), .val (.int p2), .val (.int p3), .val r4, .val .null, .val (.int p6), .val (.int p7), .val r8] [(.ref a1)])) (fun t k => XS.aloadN X6.here hx rfl (hb hby own_d2_14) rfl rfl k) ?_
  refine own_via (T6.setTop (mkF m 16 #[.val (.ref a1), .val (.int p2), .val (.int p3), .val r4, .val .null, .val (.int p6), .val (.int p7), .val r8] [r4, (.ref a1)])) (fun t k => XS.aloadN X6.here hx rfl (hb hby own_d2_15) rfl hr4 k) ?_
  have f8 : Fld Z h6 a1 "com/example/weaverbird/weaverbird/sql/ItemColumn" "written" "Lcom/example/weaverbird/weaverbird/sql/SqlText;" u2 := ((pf3.other W2 (Or.inr (slot_ne (Or.inr (hw _ (List.mem_of_getElem? (i := 17) rfl))) (Or.inr (hw _ (List.mem_of_getElem? (i := 13) rfl))) (by decide) (t := (.object "com/example/weaverbird/weaverbird/sql/SqlText")) (t' := .int) (by decide) (by decide)))).other W6 (Or.inr (slot_ne (Or.inr (hw _ (List.mem_of_getElem? (i := 17) rfl))) (Or.inr (hw _ (List.mem_of_getElem? (i := 15) rfl))) (by decide) (t := (.object "com/example/weaverbird/weaverbird/sql/SqlText")) (t' := .int) (by decide) (by decide))))
  have f9 : Exa Z h6 a1 "com/example/weaverbird/weaverbird/sql/ItemColumn" := (f5.wr W6)
  obtain ⟨T10, h10, X10, e10, W10, st10⟩ := putF X6 hx hZ hown (host := "") (Or.inl (hw _ (List.mem_of_getElem? (i := 16) rfl))) Via.refl e6 f8 f9 (Or.inr ⟨(hw _ (List.mem_of_getElem? (i := 17) rfl)), rfl, hnm⟩) (hw _ (List.mem_of_getElem? (i := 1) rfl)) (ty := (.object "com/example/weaverbird/weaverbird/sql/SqlText")) (by decide) (own_narR rfl hr4) (own_fitR rfl hr4) (g := (mkF m 16 #[.val (.ref a1), .val (.int p2), .val (.int p3), .val r4, .val .null, .val (.int p6), .val (.int p7), .val r8] [r4, (.ref a1)])) rfl rfl (hb hby own_d2_16)
  have N10 := Fr.snoc X10 N6 (show @LE.le Nat _ _ _ by omega)
  have sz_h10 : h10.size = h6.size := Wr.size W10
  have K_h10 : Keep h0 h10 [a1] := K_h6.wr W10 (Or.inl (List.mem_of_getElem? (i := 0) rfl))
  have f11 : Fld Z h10 a1 "com/example/weaverbird/weaverbird/sql/ItemColumn" "written" "Lcom/example/weaverbird/weaverbird/sql/SqlText;" r4 := (f8.same W10)
  refine own_via (T10.setTop (mkF m 19 #[.val (.ref a1), .val (.int p2), .val (.int p3), .val r4, .val .null, .val (.int p6), .val (.int p7), .val r8] [])) (st10) ?_
  refine own_via (T10.setTop (mkF m 20 #[.val (.ref a1), .val (.int p2), .val (.int p3), .val r4, .val .null, .val (.int p6), .val (.int p7), .val r8] [(.ref a1)])) (fun t k => XS.aloadN X10.here hx rfl (hb hby own_d2_19) rfl rfl k) ?_
  refine own_via (T10.setTop (mkF m 22 #[.val (.ref a1), .val (.int p2), .val (.int p3), .val r4, .val .null, .val (.int p6), .val (.int p7), .val r8] [.null, (.ref a1)])) (fun t k => XS.aload X10.here hx rfl (hb hby own_d2_20) rfl rfl k) ?_
  have f12 : Fld Z h10 a1 "com/example/weaverbird/weaverbird/sql/ItemColumn" "label" "Ljava/lang/String;" u3 := (((pf4.other W2 (Or.inr (slot_ne (Or.inr (hw _ (List.mem_of_getElem? (i := 19) rfl))) (Or.inr (hw _ (List.mem_of_getElem? (i := 13) rfl))) (by decide) (t := (.object "java/lang/String")) (t' := .int) (by decide) (by decide)))).other W6 (Or.inr (slot_ne (Or.inr (hw _ (List.mem_of_getElem? (i := 19) rfl))) (Or.inr (hw _ (List.mem_of_getElem? (i := 15) rfl))) (by decide) (t := (.object "java/lang/String")) (t' := .int) (by decide) (by decide)))).other W10 (Or.inr (slot_ne (Or.inr (hw _ (List.mem_of_getElem? (i := 19) rfl))) (Or.inr (hw _ (List.mem_of_getElem? (i := 17) rfl))) (by decide) (t := (.object "java/lang/String")) (t' := (.object "com/example/weaverbird/weaverbird/sql/SqlText")) (by decide) (by decide))))
  have f13 : Exa Z h10 a1 "com/example/weaverbird/weaverbird/sql/ItemColumn" := (f9.wr W10)
  obtain ⟨T14, h14, X14, e14, W14, st14⟩ := putF X10 hx hZ hown (host := "") (Or.inl (hw _ (List.mem_of_getElem? (i := 18) rfl))) Via.refl e10 f12 f13 (Or.inr ⟨(hw _ (List.mem_of_getElem? (i := 19) rfl)), rfl, hnm⟩) (hw _ (List.mem_of_getElem? (i := 1) rfl)) (ty := (.object "java/lang/String")) (by decide) rfl rfl (g := (mkF m 22 #[.val (.ref a1), .val (.int p2), .val (.int p3), .val r4, .val .null, .val (.int p6), .val (.int p7), .val r8] [.null, (.ref a1)])) rfl rfl (hb hby own_d2_22)
  have N14 := Fr.snoc X14 N10 (show @LE.le Nat _ _ _ by omega)
  have sz_h14 : h14.size = h10.size := Wr.size W14
  have K_h14 : Keep h0 h14 [a1] := K_h10.wr W14 (Or.inl (List.mem_of_getElem? (i := 0) rfl))
  have f15 : Fld Z h14 a1 "com/example/weaverbird/weaverbird/sql/ItemColumn" "label" "Ljava/lang/String;" .null := (f12.same W14)
  refine own_via (T14.setTop (mkF m 25 #[.val (.ref a1), .val (.int p2), .val (.int p3), .val r4, .val .null, .val (.int p6), .val (.int p7), .val r8] [])) (st14) ?_
  refine own_via (T14.setTop (mkF m 26 #[.val (.ref a1), .val (.int p2), .val (.int p3), .val r4, .val .null, .val (.int p6), .val (.int p7), .val r8] [(.ref a1)])) (fun t k => XS.aloadN X14.here hx rfl (hb hby own_d2_25) rfl rfl k) ?_
  refine own_via (T14.setTop (mkF m 28 #[.val (.ref a1), .val (.int p2), .val (.int p3), .val r4, .val .null, .val (.int p6), .val (.int p7), .val r8] [(.int p6), (.ref a1)])) (fun t k => XS.iload X14.here hx rfl (hb hby own_d2_26) rfl k) ?_
  have f16 : Fld Z h14 a1 "com/example/weaverbird/weaverbird/sql/ItemColumn" "parameter" "I" u4 := ((((pf5.other W2 (Or.inr (slot_ne (Or.inr (hw _ (List.mem_of_getElem? (i := 21) rfl))) (Or.inr (hw _ (List.mem_of_getElem? (i := 13) rfl))) (by decide) (t := .int) (t' := .int) (by decide) (by decide)))).other W6 (Or.inr (slot_ne (Or.inr (hw _ (List.mem_of_getElem? (i := 21) rfl))) (Or.inr (hw _ (List.mem_of_getElem? (i := 15) rfl))) (by decide) (t := .int) (t' := .int) (by decide) (by decide)))).other W10 (Or.inr (slot_ne (Or.inr (hw _ (List.mem_of_getElem? (i := 21) rfl))) (Or.inr (hw _ (List.mem_of_getElem? (i := 17) rfl))) (by decide) (t := .int) (t' := (.object "com/example/weaverbird/weaverbird/sql/SqlText")) (by decide) (by decide)))).other W14 (Or.inr (slot_ne (Or.inr (hw _ (List.mem_of_getElem? (i := 21) rfl))) (Or.inr (hw _ (List.mem_of_getElem? (i := 19) rfl))) (by decide) (t := .int) (t' := (.object "java/lang/String")) (by decide) (by decide))))
  have f17 : Exa Z h14 a1 "com/example/weaverbird/weaverbird/sql/ItemColumn" := (f13.wr W14)
  obtain ⟨T18, h18, X18, e18, W18, st18⟩ := putF X14 hx hZ hown (host := "") (Or.inl (hw _ (List.mem_of_getElem? (i := 20) rfl))) Via.refl e14 f16 f17 (Or.inr ⟨(hw _ (List.mem_of_getElem? (i := 21) rfl)), rfl, hnm⟩) (hw _ (List.mem_of_getElem? (i := 1) rfl)) (ty := .int) (by decide) rfl rfl (g := (mkF m 28 #[.val (.ref a1), .val (.int p2), .val (.int p3), .val r4, .val .null, .val (.int p6), .val (.int p7), .val r8] [(.int p6), (.ref a1)])) rfl rfl (hb hby own_d2_28)
  have N18 := Fr.snoc X18 N14 (show @LE.le Nat _ _ _ by omega)
  have sz_h18 : h18.size = h14.size := Wr.size W18
  have K_h18 : Keep h0 h18 [a1] := K_h14.wr W18 (Or.inl (List.mem_of_getElem? (i := 0) rfl))
  have f19 : Fld Z h18 a1 "com/example/weaverbird/weaverbird/sql/ItemColumn" "parameter" "I" (.int p6) := (f16.same W18)
  refine own_via (T18.setTop (mkF m 31 #[.val (.ref a1), .val (.int p2), .val (.int p3), .val r4, .val .null, .val (.int p6), .val (.int p7), .val r8] [])) (st18) ?_
  refine own_via (T18.setTop (mkF m 32 #[.val (.ref a1), .val (.int p2), .val (.int p3), .val r4, .val .null, .val (.int p6), .val (.int p7), .val r8] [(.ref a1)])) (fun t k => XS.aloadN X18.here hx rfl (hb hby own_d2_31) rfl rfl k) ?_
  refine own_via (T18.setTop (mkF m 34 #[.val (.ref a1), .val (.int p2), .val (.int p3), .val r4, .val .null, .val (.int p6), .val (.int p7), .val r8] [(.int p7), (.ref a1)])) (fun t k => XS.iload X18.here hx rfl (hb hby own_d2_32) rfl k) ?_
  have f20 : Fld Z h18 a1 "com/example/weaverbird/weaverbird/sql/ItemColumn" "aggregateArgument" "Z" u5 := (((((pf6.other W2 (Or.inr (slot_ne (Or.inr (hw _ (List.mem_of_getElem? (i := 23) rfl))) (Or.inr (hw _ (List.mem_of_getElem? (i := 13) rfl))) (by decide) (t := .boolean) (t' := .int) (by decide) (by decide)))).other W6 (Or.inr (slot_ne (Or.inr (hw _ (List.mem_of_getElem? (i := 23) rfl))) (Or.inr (hw _ (List.mem_of_getElem? (i := 15) rfl))) (by decide) (t := .boolean) (t' := .int) (by decide) (by decide)))).other W10 (Or.inr (slot_ne (Or.inr (hw _ (List.mem_of_getElem? (i := 23) rfl))) (Or.inr (hw _ (List.mem_of_getElem? (i := 17) rfl))) (by decide) (t := .boolean) (t' := (.object "com/example/weaverbird/weaverbird/sql/SqlText")) (by decide) (by decide)))).other W14 (Or.inr (slot_ne (Or.inr (hw _ (List.mem_of_getElem? (i := 23) rfl))) (Or.inr (hw _ (List.mem_of_getElem? (i := 19) rfl))) (by decide) (t := .boolean) (t' := (.object "java/lang/String")) (by decide) (by decide)))).other W18 (Or.inr (slot_ne (Or.inr (hw _ (List.mem_of_getElem? (i := 23) rfl))) (Or.inr (hw _ (List.mem_of_getElem? (i := 21) rfl))) (by decide) (t := .boolean) (t' := .int) (by decide) (by decide))))
  have f21 : Exa Z h18 a1 "com/example/weaverbird/weaverbird/sql/ItemColumn" := (f17.wr W18)
  obtain ⟨T22, h22, X22, e22, W22, st22⟩ := putFN X18 hx hZ hown (hw _ (List.mem_of_getElem? (i := 22) rfl)) Via.refl e18 f20 f21 (Or.inr ⟨(hw _ (List.mem_of_getElem? (i := 23) rfl)), rfl, hnm⟩) (hw _ (List.mem_of_getElem? (i := 1) rfl)) (ty := .boolean) (v' := (.int (nar .boolean p7))) (by decide) rfl (fits_nar_bool _) (g := (mkF m 34 #[.val (.ref a1), .val (.int p2), .val (.int p3), .val r4, .val .null, .val (.int p6), .val (.int p7), .val r8] [(.int p7), (.ref a1)])) rfl rfl (hb hby own_d2_34)
  have N22 := Fr.snoc X22 N18 (show @LE.le Nat _ _ _ by omega)
  have sz_h22 : h22.size = h18.size := Wr.size W22
  have K_h22 : Keep h0 h22 [a1] := K_h18.wr W22 (Or.inl (List.mem_of_getElem? (i := 0) rfl))
  have f23 : Fld Z h22 a1 "com/example/weaverbird/weaverbird/sql/ItemColumn" "aggregateArgument" "Z" (.int (nar .boolean p7)) := (f20.same W22)
  refine own_via (T22.setTop (mkF m 37 #[.val (.ref a1), .val (.int p2), .val (.int p3), .val r4, .val .null, .val (.int p6), .val (.int p7), .val r8] [])) (st22) ?_
  refine own_via (T22.setTop (mkF m 38 #[.val (.ref a1), .val (.int p2), .val (.int p3), .val r4, .val .null, .val (.int p6), .val (.int p7), .val r8] [(.ref a1)])) (fun t k => XS.aloadN X22.here hx rfl (hb hby own_d2_37) rfl rfl k) ?_
  refine own_via (T22.setTop (mkF m 40 #[.val (.ref a1), .val (.int p2), .val (.int p3), .val r4, .val .null, .val (.int p6), .val (.int p7), .val r8] [r8, (.ref a1)])) (fun t k => XS.aload X22.here hx rfl (hb hby own_d2_38) rfl hr8 k) ?_
  have f24 : Fld Z h22 a1 "com/example/weaverbird/weaverbird/sql/ItemColumn" "rankKeys" "Ljava/util/List;" u6 := ((((((pf7.other W2 (Or.inr (slot_ne (Or.inr (hw _ (List.mem_of_getElem? (i := 25) rfl))) (Or.inr (hw _ (List.mem_of_getElem? (i := 13) rfl))) (by decide) (t := (.object "java/util/List")) (t' := .int) (by decide) (by decide)))).other W6 (Or.inr (slot_ne (Or.inr (hw _ (List.mem_of_getElem? (i := 25) rfl))) (Or.inr (hw _ (List.mem_of_getElem? (i := 15) rfl))) (by decide) (t := (.object "java/util/List")) (t' := .int) (by decide) (by decide)))).other W10 (Or.inr (slot_ne (Or.inr (hw _ (List.mem_of_getElem? (i := 25) rfl))) (Or.inr (hw _ (List.mem_of_getElem? (i := 17) rfl))) (by decide) (t := (.object "java/util/List")) (t' := (.object "com/example/weaverbird/weaverbird/sql/SqlText")) (by decide) (by decide)))).other W14 (Or.inr (slot_ne (Or.inr (hw _ (List.mem_of_getElem? (i := 25) rfl))) (Or.inr (hw _ (List.mem_of_getElem? (i := 19) rfl))) (by decide) (t := (.object "java/util/List")) (t' := (.object "java/lang/String")) (by decide) (by decide)))).other W18 (Or.inr (slot_ne (Or.inr (hw _ (List.mem_of_getElem? (i := 25) rfl))) (Or.inr (hw _ (List.mem_of_getElem? (i := 21) rfl))) (by decide) (t := (.object "java/util/List")) (t' := .int) (by decide) (by decide)))).other W22 (Or.inr (slot_ne (Or.inr (hw _ (List.mem_of_getElem? (i := 25) rfl))) (Or.inr (hw _ (List.mem_of_getElem? (i := 23) rfl))) (by decide) (t := (.object "java/util/List")) (t' := .boolean) (by decide) (by decide))))
  have f25 : Exa Z h22 a1 "com/example/weaverbird/weaverbird/sql/ItemColumn" := (f21.wr W22)
  obtain ⟨T26, h26, X26, e26, W26, st26⟩ := putF X22 hx hZ hown (host := "") (Or.inl (hw _ (List.mem_of_getElem? (i := 24) rfl))) Via.refl e22 f24 f25 (Or.inr ⟨(hw _ (List.mem_of_getElem? (i := 25) rfl)), rfl, hnm⟩) (hw _ (List.mem_of_getElem? (i := 1) rfl)) (ty := (.object "java/util/List")) (by decide) (own_narR rfl hr8) (own_fitR rfl hr8) (g := (mkF m 40 #[.val (.ref a1), .val (.int p2), .val (.int p3), .val r4, .val .null, .val (.int p6), .val (.int p7), .val r8] [r8, (.ref a1)])) rfl rfl (hb hby own_d2_40)
  have N26 := Fr.snoc X26 N22 (show @LE.le Nat _ _ _ by omega)
  have sz_h26 : h26.size = h22.size := Wr.size W26
  have K_h26 : Keep h0 h26 [a1] := K_h22.wr W26 (Or.inl (List.mem_of_getElem? (i := 0) rfl))
  have f27 : Fld Z h26 a1 "com/example/weaverbird/weaverbird/sql/ItemColumn" "rankKeys" "Ljava/util/List;" r8 := (f24.same W26)
  refine own_via (T26.setTop (mkF m 43 #[.val (.ref a1), .val (.int p2), .val (.int p3), .val r4, .val .null, .val (.int p6), .val (.int p7), .val r8] [])) (st26) ?_
  have f28 : Exa Z h26 a1 "com/example/weaverbird/weaverbird/sql/ItemColumn" := (f25.wr W26)
  have f29 : Fld Z h26 a1 "com/example/weaverbird/weaverbird/sql/ItemColumn" "from" "I" (.int p2) := ((((((f3.other W6 (Or.inr (slot_ne (Or.inr (hw _ (List.mem_of_getElem? (i := 13) rfl))) (Or.inr (hw _ (List.mem_of_getElem? (i := 15) rfl))) (by decide) (t := .int) (t' := .int) (by decide) (by decide)))).other W10 (Or.inr (slot_ne (Or.inr (hw _ (List.mem_of_getElem? (i := 13) rfl))) (Or.inr (hw _ (List.mem_of_getElem? (i := 17) rfl))) (by decide) (t := .int) (t' := (.object "com/example/weaverbird/weaverbird/sql/SqlText")) (by decide) (by decide)))).other W14 (Or.inr (slot_ne (Or.inr (hw _ (List.mem_of_getElem? (i := 13) rfl))) (Or.inr (hw _ (List.mem_of_getElem? (i := 19) rfl))) (by decide) (t := .int) (t' := (.object "java/lang/String")) (by decide) (by decide)))).other W18 (Or.inr (slot_ne (Or.inr (hw _ (List.mem_of_getElem? (i := 13) rfl))) (Or.inr (hw _ (List.mem_of_getElem? (i := 21) rfl))) (by decide) (t := .int) (t' := .int) (by decide) (by decide)))).other W22 (Or.inr (slot_ne (Or.inr (hw _ (List.mem_of_getElem? (i := 13) rfl))) (Or.inr (hw _ (List.mem_of_getElem? (i := 23) rfl))) (by decide) (t := .int) (t' := .boolean) (by decide) (by decide)))).other W26 (Or.inr (slot_ne (Or.inr (hw _ (List.mem_of_getElem? (i := 13) rfl))) (Or.inr (hw _ (List.mem_of_getElem? (i := 25) rfl))) (by decide) (t := .int) (t' := (.object "java/util/List")) (by decide) (by decide))))
  have f30 : Fld Z h26 a1 "com/example/weaverbird/weaverbird/sql/ItemColumn" "to" "I" (.int p3) := (((((f7.other W10 (Or.inr (slot_ne (Or.inr (hw _ (List.mem_of_getElem? (i := 15) rfl))) (Or.inr (hw _ (List.mem_of_getElem? (i := 17) rfl))) (by decide) (t := .int) (t' := (.object "com/example/weaverbird/weaverbird/sql/SqlText")) (by decide) (by decide)))).other W14 (Or.inr (slot_ne (Or.inr (hw _ (List.mem_of_getElem? (i := 15) rfl))) (Or.inr (hw _ (List.mem_of_getElem? (i := 19) rfl))) (by decide) (t := .int) (t' := (.object "java/lang/String")) (by decide) (by decide)))).other W18 (Or.inr (slot_ne (Or.inr (hw _ (List.mem_of_getElem? (i := 15) rfl))) (Or.inr (hw _ (List.mem_of_getElem? (i := 21) rfl))) (by decide) (t := .int) (t' := .int) (by decide) (by decide)))).other W22 (Or.inr (slot_ne (Or.inr (hw _ (List.mem_of_getElem? (i := 15) rfl))) (Or.inr (hw _ (List.mem_of_getElem? (i := 23) rfl))) (by decide) (t := .int) (t' := .boolean) (by decide) (by decide)))).other W26 (Or.inr (slot_ne (Or.inr (hw _ (List.mem_of_getElem? (i := 15) rfl))) (Or.inr (hw _ (List.mem_of_getElem? (i := 25) rfl))) (by decide) (t := .int) (t' := (.object "java/util/List")) (by decide) (by decide))))
  have f31 : Fld Z h26 a1 "com/example/weaverbird/weaverbird/sql/ItemColumn" "written" "Lcom/example/weaverbird/weaverbird/sql/SqlText;" r4 := ((((f11.other W14 (Or.inr (slot_ne (Or.inr (hw _ (List.mem_of_getElem? (i := 17) rfl))) (Or.inr (hw _ (List.mem_of_getElem? (i := 19) rfl))) (by decide) (t := (.object "com/example/weaverbird/weaverbird/sql/SqlText")) (t' := (.object "java/lang/String")) (by decide) (by decide)))).other W18 (Or.inr (slot_ne (Or.inr (hw _ (List.mem_of_getElem? (i := 17) rfl))) (Or.inr (hw _ (List.mem_of_getElem? (i := 21) rfl))) (by decide) (t := (.object "com/example/weaverbird/weaverbird/sql/SqlText")) (t' := .int) (by decide) (by decide)))).other W22 (Or.inr (slot_ne (Or.inr (hw _ (List.mem_of_getElem? (i := 17) rfl))) (Or.inr (hw _ (List.mem_of_getElem? (i := 23) rfl))) (by decide) (t := (.object "com/example/weaverbird/weaverbird/sql/SqlText")) (t' := .boolean) (by decide) (by decide)))).other W26 (Or.inr (slot_ne (Or.inr (hw _ (List.mem_of_getElem? (i := 17) rfl))) (Or.inr (hw _ (List.mem_of_getElem? (i := 25) rfl))) (by decide) (t := (.object "com/example/weaverbird/weaverbird/sql/SqlText")) (t' := (.object "java/util/List")) (by decide) (by decide))))
  exact own_ret0 X26 hx hlk hret (hb hby own_d2_43) e26 (⟨rfl, N26, K_h26, f28, f29, f30, f31, f27⟩) (by decide) (by decide)
theorem own_pn11091059 : plainFor (⟨"com/example/weaverbird/weaverbird/sql/ItemColumn", "<init>", "(IIIZ)V"⟩ : MethodName) = true := by first | exact Jvm.Free.JP.mathPlain rfl (by decide +kernel) | exact plainFor_of_name (by first | (simp [plainName, overriddenIn]; done) | decide +kernel) | decide +kernel
theorem own_d1_0 : decode prog_110_method_1_code 0 = .ok (.aload_n 0, 1) := by decide +kernel
theorem own_d1_1 : decode prog_110_method_1_code 1 = .ok (.iload_n 1, 1) := by decide +kernel
theorem own_d1_2 : decode prog_110_method_1_code 2 = .ok (.iload_n 2, 1) := by decide +kernel
theorem own_d1_3 : decode prog_110_method_1_code 3 = .ok (.aconst_null, 1) := by decide +kernel
theorem own_d1_4 : decode prog_110_method_1_code 4 = .ok (.aconst_null, 1) := by decide +kernel
theorem own_d1_5 : decode prog_110_method_1_code 5 = .ok (.iload_n 3, 1) := by decide +kernel
theorem own_d1_6 : decode prog_110_method_1_code 6 = .ok (.iload 4, 2) := by decide +kernel
theorem own_d1_8 : decode prog_110_method_1_code 8 = .ok (.aconst_null, 1) := by decide +kernel
theorem own_d1_9 : decode prog_110_method_1_code 9 = .ok (.invokespecial 1, 3) := by decide +kernel
theorem own_pd68318256 : parseMethodDescriptor "(IILcom/example/weaverbird/weaverbird/sql/SqlText;Ljava/lang/String;IZLjava/util/List;)V" = some ⟨[.int, .int, (.object "com/example/weaverbird/weaverbird/sql/SqlText"), (.object "java/lang/String"), .int, .boolean, (.object "java/util/List")], none⟩ := by decide +kernel
theorem own_d1_12 : decode prog_110_method_1_code 12 = .ok (.return_, 1) := by decide +kernel
theorem own_ef_rm_init4 (m : MethodId) (x0 : Addr) (x1 : Int32) (x2 : Int32) (x3 : Int32) (x4 : Int32) : entryFrame m #[(.ref x0), (.int x1), (.int x2), (.int x3), (.int x4)] 5 = mkF m 0 #[.val (.ref x0), .val (.int x1), .val (.int x2), .val (.int x3), .val (.int x4)] [] := by first | (simp [entryFrame, mkF, argsToLocals, Value.category]; done) | rfl
def Q_rm_init4 (Z : State) (a1 : Nat) (p2 : Int32) (p3 : Int32) (p4 : Int32) (p5 : Int32) (u0 : Value) (u1 : Value) (u2 : Value) (u3 : Value) (u4 : Value) (u5 : Value) (u6 : Value) (h0 : Heap) (n0 : Nat) (v : Option Value) (h : Heap) (L : List Loc) : Prop := v = none ∧ Fr n0 L ∧ Keep h0 h [a1] ∧ Exa Z h a1 "com/example/weaverbird/weaverbird/sql/ItemColumn" ∧ Fld Z h a1 "com/example/weaverbird/weaverbird/sql/ItemColumn" "from" "I" (.int p2) ∧ Fld Z h a1 "com/example/weaverbird/weaverbird/sql/ItemColumn" "to" "I" (.int p3) ∧ Fld Z h a1 "com/example/weaverbird/weaverbird/sql/ItemColumn" "written" "Lcom/example/weaverbird/weaverbird/sql/SqlText;" .null ∧ Fld Z h a1 "com/example/weaverbird/weaverbird/sql/ItemColumn" "rankKeys" "Ljava/util/List;" .null
set_option maxRecDepth 65536 in
set_option maxHeartbeats 40000000 in
theorem rm_init4 (l : Launch) (Z : State) (a0 : Array Value) (hw : ∀ d ∈ tables_1, d.before a0 Z = true) (a1 : Nat) (p2 : Int32) (p3 : Int32) (p4 : Int32) (p5 : Int32) (u0 : Value) (u1 : Value) (u2 : Value) (u3 : Value) (u4 : Value) (u5 : Value) (u6 : Value) (h0 : Heap) (n0 : Nat) (Z0 : n0 ≤ h0.size) (pf0 : Exa Z h0 a1 "com/example/weaverbird/weaverbird/sql/ItemColumn") (pf1 : Fld Z h0 a1 "com/example/weaverbird/weaverbird/sql/ItemColumn" "from" "I" u0) (pf2 : Fld Z h0 a1 "com/example/weaverbird/weaverbird/sql/ItemColumn" "to" "I" u1) (pf3 : Fld Z h0 a1 "com/example/weaverbird/weaverbird/sql/ItemColumn" "written" "Lcom/example/weaverbird/weaverbird/sql/SqlText;" u2) (pf4 : Fld Z h0 a1 "com/example/weaverbird/weaverbird/sql/ItemColumn" "label" "Ljava/lang/String;" u3) (pf5 : Fld Z h0 a1 "com/example/weaverbird/weaverbird/sql/ItemColumn" "parameter" "I" u4) (pf6 : Fld Z h0 a1 "com/example/weaverbird/weaverbird/sql/ItemColumn" "aggregateArgument" "Z" u5) (pf7 : Fld Z h0 a1 "com/example/weaverbird/weaverbird/sql/ItemColumn" "rankKeys" "Ljava/util/List;" u6) (g1 : n0 ≤ a1) :
    own_CT l Z (⟨"com/example/weaverbird/weaverbird/sql/ItemColumn", "<init>", "(IIIZ)V"⟩ : MethodName) prog_110_method_1_code 5 none ({ frames := 2, cells := 0, slots := 0, locals := 31 } : Room) #[(.ref a1), (.int p2), (.int p3), (.int p4), (.int p5)] h0 (Q_rm_init4 Z a1 p2 p3 p4 p5 u0 u1 u2 u3 u4 u5 u6 h0 n0) := by
  refine own_of own_pn11091059 (Ls := #[.val (.ref a1), .val (.int p2), .val (.int p3), .val (.int p4), .val (.int p5)]) (fun m => own_ef_rm_init4 m a1 p2 p3 p4 p5) ?_
  intro p e s m below meth c T0 X0 hx hby hml hown hnm hret hZ e0 hlk
  have hown : s.vm.findClass "com/example/weaverbird/weaverbird/sql/ItemColumn" = some m.cls := hown
  have N0 := Fr.nil n0
  have lt_a1 : @LT.lt Nat _ a1 h0.size := pf0.lt
  refine own_via (T0.setTop (mkF m 1 #[.val (.ref a1), .val (.int p2), .val (.int p3), .val (.int p4), .val (.int p5)] [(.ref a1)])) (fun t k => XS.aloadN X0.here hx rfl (hb hby own_d1_0) rfl rfl k) ?_
  refine own_via (T0.setTop (mkF m 2 #[.val (.ref a1), .val (.int p2), .val (.int p3), .val (.int p4), .val (.int p5)] [(.int p2), (.ref a1)])) (fun t k => XS.iloadN X0.here hx rfl (hb hby own_d1_1) rfl k) ?_
  refine own_via (T0.setTop (mkF m 3 #[.val (.ref a1), .val (.int p2), .val (.int p3), .val (.int p4), .val (.int p5)] [(.int p3), (.int p2), (.ref a1)])) (fun t k => XS.iloadN X0.here hx rfl (hb hby own_d1_2) rfl k) ?_
  refine own_via (T0.setTop (mkF m 4 #[.val (.ref a1), .val (.int p2), .val (.int p3), .val (.int p4), .val (.int p5)] [.null, (.int p3), (.int p2), (.ref a1)])) (fun t k => XS.aconstNull X0.here hx rfl (hb hby own_d1_3) k) ?_
  refine own_via (T0.setTop (mkF m 5 #[.val (.ref a1), .val (.int p2), .val (.int p3), .val (.int p4), .val (.int p5)] [.null, .null, (.int p3), (.int p2), (.ref a1)])) (fun t k => XS.aconstNull X0.here hx rfl (hb hby own_d1_4) k) ?_
  refine own_via (T0.setTop (mkF m 6 #[.val (.ref a1), .val (.int p2), .val (.int p3), .val (.int p4), .val (.int p5)] [(.int p4), .null, .null, (.int p3), (.int p2), (.ref a1)])) (fun t k => XS.iloadN X0.here hx rfl (hb hby own_d1_5) rfl k) ?_
  refine own_via (T0.setTop (mkF m 8 #[.val (.ref a1), .val (.int p2), .val (.int p3), .val (.int p4), .val (.int p5)] [(.int p5), (.int p4), .null, .null, (.int p3), (.int p2), (.ref a1)])) (fun t k => XS.iload X0.here hx rfl (hb hby own_d1_6) rfl k) ?_
  refine own_via (T0.setTop (mkF m 9 #[.val (.ref a1), .val (.int p2), .val (.int p3), .val (.int p4), .val (.int p5)] [.null, (.int p5), (.int p4), .null, .null, (.int p3), (.int p2), (.ref a1)])) (fun t k => XS.aconstNull X0.here hx rfl (hb hby own_d1_8) k) ?_
  obtain ⟨v1, T1, h1, L1, X1, e1, q1, st1⟩ := own_cI X0 hx hZ hown (hw _ (List.mem_of_getElem? (i := 6) rfl)) (hw _ (List.mem_of_getElem? (i := 7) rfl)) (hw _ (List.mem_of_getElem? (i := 8) rfl)) rfl (by decide) (W := 0) (own_bk (rm_init7 l Z a0 hw a1 p2 p3 .null p4 p5 .null u0 u1 u2 u3 u4 u5 u6 h0 n0 (by omega) pf0 pf1 pf2 pf3 pf4 pf5 pf6 pf7 rfl rfl (show @LE.le Nat _ _ _ by omega)) hZ (hw _ (List.mem_of_getElem? (i := 8) rfl)) (hw _ (List.mem_of_getElem? (i := 2) rfl)) (by decide) (by decide)) e0 (a := a1) (Ls := #[.val (.ref a1), .val (.int p2), .val (.int p3), .val (.int p4), .val (.int p5)]) (by rw [hml]; rfl) (argsL := [(.int p2), (.int p3), .null, .null, (.int p4), (.int p5), .null]) (rest := []) rfl (lenOf own_pd68318256 rfl) rfl (Nat.le_of_eq rfl) (hb hby own_d1_9) (by decide) (by decide)
  obtain ⟨rfl, Nq1, Kq1, f2, f3, f4, f5, f6⟩ := q1
  have N1 := Fr.app N0 Nq1
  have sz_h1 : h0.size ≤ h1.size := Kq1.1
  have K_h1 : Keep h0 h1 [a1] := (Keep.refl h0 [a1]).trans Kq1 (allS (Or.inl (List.mem_of_getElem? (i := 0) rfl)) all0)
  refine own_via (T1.setTop (mkF m 12 #[.val (.ref a1), .val (.int p2), .val (.int p3), .val (.int p4), .val (.int p5)] [])) (st1) ?_
  exact own_ret0 X1 hx hlk hret (hb hby own_d1_12) e1 (⟨rfl, N1, K_h1, f2, f3, f4, f5, f6⟩) (by decide) (by decide)
theorem own_pn62121717 : plainFor (⟨"com/example/weaverbird/weaverbird/sql/ItemColumn", "<init>", "(Lcom/example/weaverbird/weaverbird/sql/SqlText;Ljava/lang/String;IZ)V"⟩ : MethodName) = true := by first | exact Jvm.Free.JP.mathPlain rfl (by decide +kernel) | exact plainFor_of_name (by first | (simp [plainName, overriddenIn]; done) | decide +kernel) | decide +kernel
theorem own_d14_0 : decode prog_110_method_2_code 0 = .ok (.aload_n 0, 1) := by decide +kernel
theorem own_d14_1 : decode prog_110_method_2_code 1 = .ok (.iconst 0, 1) := by decide +kernel
theorem own_d14_2 : decode prog_110_method_2_code 2 = .ok (.iconst 0, 1) := by decide +kernel
theorem own_d14_3 : decode prog_110_method_2_code 3 = .ok (.aload_n 1, 1) := by decide +kernel
theorem own_d14_4 : decode prog_110_method_2_code 4 = .ok (.aload_n 2, 1) := by decide +kernel
theorem own_d14_5 : decode prog_110_method_2_code 5 = .ok (.iload_n 3, 1) := by decide +kernel
theorem own_d14_6 : decode prog_110_method_2_code 6 = .ok (.iload 4, 2) := by decide +kernel
theorem own_d14_8 : decode prog_110_method_2_code 8 = .ok (.aconst_null, 1) := by decide +kernel
theorem own_d14_9 : decode prog_110_method_2_code 9 = .ok (.invokespecial 1, 3) := by decide +kernel
theorem own_d14_12 : decode prog_110_method_2_code 12 = .ok (.return_, 1) := by decide +kernel
theorem own_ef_rm_initW (m : MethodId) (x0 : Addr) (x1 : Addr) (x3 : Int32) (x4 : Int32) : entryFrame m #[(.ref x0), (.ref x1), .null, (.int x3), (.int x4)] 5 = mkF m 0 #[.val (.ref x0), .val (.ref x1), .val .null, .val (.int x3), .val (.int x4)] [] := by first | (simp [entryFrame, mkF, argsToLocals, Value.category]; done) | rfl
def Q_rm_initW (Z : State) (a1 : Nat) (a2 : Nat) (p4 : Int32) (p5 : Int32) (u0 : Value) (u1 : Value) (u2 : Value) (u3 : Value) (u4 : Value) (u5 : Value) (u6 : Value) (h0 : Heap) (n0 : Nat) (v : Option Value) (h : Heap) (L : List Loc) : Prop := v = none ∧ Fr n0 L ∧ Keep h0 h [a1] ∧ Exa Z h a1 "com/example/weaverbird/weaverbird/sql/ItemColumn" ∧ Fld Z h a1 "com/example/weaverbird/weaverbird/sql/ItemColumn" "from" "I" (.int (0 : Int32)) ∧ Fld Z h a1 "com/example/weaverbird/weaverbird/sql/ItemColumn" "to" "I" (.int (0 : Int32)) ∧ Fld Z h a1 "com/example/weaverbird/weaverbird/sql/ItemColumn" "written" "Lcom/example/weaverbird/weaverbird/sql/SqlText;" (.ref a2) ∧ Fld Z h a1 "com/example/weaverbird/weaverbird/sql/ItemColumn" "rankKeys" "Ljava/util/List;" .null
set_option maxRecDepth 65536 in
set_option maxHeartbeats 40000000 in
theorem rm_initW (l : Launch) (Z : State) (a0 : Array Value) (hw : ∀ d ∈ tables_1, d.before a0 Z = true) (a1 : Nat) (a2 : Nat) (p4 : Int32) (p5 : Int32) (u0 : Value) (u1 : Value) (u2 : Value) (u3 : Value) (u4 : Value) (u5 : Value) (u6 : Value) (h0 : Heap) (n0 : Nat) (Z0 : n0 ≤ h0.size) (pf0 : Exa Z h0 a1 "com/example/weaverbird/weaverbird/sql/ItemColumn") (pf1 : Fld Z h0 a1 "com/example/weaverbird/weaverbird/sql/ItemColumn" "from" "I" u0) (pf2 : Fld Z h0 a1 "com/example/weaverbird/weaverbird/sql/ItemColumn" "to" "I" u1) (pf3 : Fld Z h0 a1 "com/example/weaverbird/weaverbird/sql/ItemColumn" "written" "Lcom/example/weaverbird/weaverbird/sql/SqlText;" u2) (pf4 : Fld Z h0 a1 "com/example/weaverbird/weaverbird/sql/ItemColumn" "label" "Ljava/lang/String;" u3) (pf5 : Fld Z h0 a1 "com/example/weaverbird/weaverbird/sql/ItemColumn" "parameter" "I" u4) (pf6 : Fld Z h0 a1 "com/example/weaverbird/weaverbird/sql/ItemColumn" "aggregateArgument" "Z" u5) (pf7 : Fld Z h0 a1 "com/example/weaverbird/weaverbird/sql/ItemColumn" "rankKeys" "Ljava/util/List;" u6) (g1 : n0 ≤ a1) :
    own_CT l Z (⟨"com/example/weaverbird/weaverbird/sql/ItemColumn", "<init>", "(Lcom/example/weaverbird/weaverbird/sql/SqlText;Ljava/lang/String;IZ)V"⟩ : MethodName) prog_110_method_2_code 5 none ({ frames := 2, cells := 0, slots := 0, locals := 31 } : Room) #[(.ref a1), (.ref a2), .null, (.int p4), (.int p5)] h0 (Q_rm_initW Z a1 a2 p4 p5 u0 u1 u2 u3 u4 u5 u6 h0 n0) := by
  refine own_of own_pn62121717 (Ls := #[.val (.ref a1), .val (.ref a2), .val .null, .val (.int p4), .val (.int p5)]) (fun m => own_ef_rm_initW m a1 a2 p4 p5) ?_
  intro p e s m below meth c T0 X0 hx hby hml hown hnm hret hZ e0 hlk
  have hown : s.vm.findClass "com/example/weaverbird/weaverbird/sql/ItemColumn" = some m.cls := hown
  have N0 := Fr.nil n0
  have lt_a1 : @LT.lt Nat _ a1 h0.size := pf0.lt
  refine own_via (T0.setTop (mkF m 1 #[.val (.ref a1), .val (.ref a2), .val .null, .val (.int p4), .val (.int p5)] [(.ref a1)])) (fun t k => XS.aloadN X0.here hx rfl (hb hby own_d14_0) rfl rfl k) ?_
  refine own_via (T0.setTop (mkF m 2 #[.val (.ref a1), .val (.ref a2), .val .null, .val (.int p4), .val (.int p5)] [(.int (0 : Int32)), (.ref a1)])) (fun t k => XS.iconst X0.here hx rfl (hb hby own_d14_1) k) ?_
  refine own_via (T0.setTop (mkF m 3 #[.val (.ref a1), .val (.ref a2), .val .null, .val (.int p4), .val (.int p5)] [(.int (0 : Int32)), (.int (0 : Int32)), (.ref a1)])) (fun t k => XS.iconst X0.here hx rfl (hb hby own_d14_2) k) ?_
  refine own_via (T0.setTop (mkF m 4 #[.val (.ref a1), .val (.ref a2), .val .null, .val (.int p4), .val (.int p5)] [(.ref a2), (.int (0 : Int32)), (.int (0 : Int32)), (.ref a1)])) (fun t k => XS.aloadN X0.here hx rfl (hb hby own_d14_3) rfl rfl k) ?_
  refine own_via (T0.setTop (mkF m 5 #[.val (.ref a1), .val (.ref a2), .val .null, .val (.int p4), .val (.int p5)] [.null, (.ref a2), (.int (0 : Int32)), (.int (0 : Int32)), (.ref a1)])) (fun t k => XS.aloadN X0.here hx rfl (hb hby own_d14_4) rfl rfl k) ?_
  refine own_via (T0.setTop (mkF m 6 #[.val (.ref a1), .val (.ref a2), .val .null, .val (.int p4), .val (.int p5)] [(.int p4), .null, (.ref a2), (.int (0 : Int32)), (.int (0 : Int32)), (.ref a1)])) (fun t k => XS.iloadN X0.here hx rfl (hb hby own_d14_5) rfl k) ?_
  refine own_via (T0.setTop (mkF m 8 #[.val (.ref a1), .val (.ref a2), .val .null, .val (.int p4), .val (.int p5)] [(.int p5), (.int p4), .null, (.ref a2), (.int (0 : Int32)), (.int (0 : Int32)), (.ref a1)])) (fun t k => XS.iload X0.here hx rfl (hb hby own_d14_6) rfl k) ?_
  refine own_via (T0.setTop (mkF m 9 #[.val (.ref a1), .val (.ref a2), .val .null, .val (.int p4), .val (.int p5)] [.null, (.int p5), (.int p4), .null, (.ref a2), (.int (0 : Int32)), (.int (0 : Int32)), (.ref a1)])) (fun t k => XS.aconstNull X0.here hx rfl (hb hby own_d14_8) k) ?_
  obtain ⟨v1, T1, h1, L1, X1, e1, q1, st1⟩ := own_cI X0 hx hZ hown (hw _ (List.mem_of_getElem? (i := 6) rfl)) (hw _ (List.mem_of_getElem? (i := 7) rfl)) (hw _ (List.mem_of_getElem? (i := 8) rfl)) rfl (by decide) (W := 0) (own_bk (rm_init7 l Z a0 hw a1 (0 : Int32) (0 : Int32) (.ref a2) p4 p5 .null u0 u1 u2 u3 u4 u5 u6 h0 n0 (by omega) pf0 pf1 pf2 pf3 pf4 pf5 pf6 pf7 rfl rfl (show @LE.le Nat _ _ _ by omega)) hZ (hw _ (List.mem_of_getElem? (i := 8) rfl)) (hw _ (List.mem_of_getElem? (i := 2) rfl)) (by decide) (by decide)) e0 (a := a1) (Ls := #[.val (.ref a1), .val (.ref a2), .val .null, .val (.int p4), .val (.int p5)]) (by rw [hml]; rfl) (argsL := [(.int (0 : Int32)), (.int (0 : Int32)), (.ref a2), .null, (.int p4), (.int p5), .null]) (rest := []) rfl (lenOf own_pd68318256 rfl) rfl (Nat.le_of_eq rfl) (hb hby own_d14_9) (by decide) (by decide)
  obtain ⟨rfl, Nq1, Kq1, f2, f3, f4, f5, f6⟩ := q1
  have N1 := Fr.app N0 Nq1
  have sz_h1 : h0.size ≤ h1.size := Kq1.1
  have K_h1 : Keep h0 h1 [a1] := (Keep.refl h0 [a1]).trans Kq1 (allS (Or.inl (List.mem_of_getElem? (i := 0) rfl)) all0)
  refine own_via (T1.setTop (mkF m 12 #[.val (.ref a1), .val (.ref a2), .val .null, .val (.int p4), .val (.int p5)] [])) (st1) ?_
  exact own_ret0 X1 hx hlk hret (hb hby own_d14_12) e1 (⟨rfl, N1, K_h1, f2, f3, f4, f5, f6⟩) (by decide) (by decide)
theorem own_pn23052667 : plainFor (⟨"com/example/weaverbird/weaverbird/sql/ItemColumn", "isEmpty", "()Z"⟩ : MethodName) = true := by first | exact Jvm.Free.JP.mathPlain rfl (by decide +kernel) | exact plainFor_of_name (by first | (simp [plainName, overriddenIn]; done) | decide +kernel) | decide +kernel
theorem own_d4_0 : decode prog_110_method_7_code 0 = .ok (.aload_n 0, 1) := by decide +kernel
theorem own_d4_1 : decode prog_110_method_7_code 1 = .ok (.getfield 34, 3) := by decide +kernel
theorem own_d4_4 : decode prog_110_method_7_code 4 = .ok (.ifnonnull 25, 3) := by decide +kernel
theorem own_d4_29 : decode prog_110_method_7_code 29 = .ok (.iconst 0, 1) := by decide +kernel
theorem own_d4_30 : decode prog_110_method_7_code 30 = .ok (.ireturn, 1) := by decide +kernel
theorem own_ef_rm_emptyR (m : MethodId) (x0 : Addr) : entryFrame m #[(.ref x0)] 1 = mkF m 0 #[.val (.ref x0)] [] := by first | (simp [entryFrame, mkF, argsToLocals, Value.category]; done) | rfl
def Q_rm_emptyR (Z : State) (a1 : Nat) (b : Nat) (h0 : Heap) (n0 : Nat) (v : Option Value) (h : Heap) (L : List Loc) : Prop := v = some (.int (0 : Int32)) ∧ Fr n0 L ∧ h = h0
set_option maxRecDepth 65536 in
set_option maxHeartbeats 40000000 in
theorem rm_emptyR (l : Launch) (Z : State) (a0 : Array Value) (hw : ∀ d ∈ tables_1, d.before a0 Z = true) (a1 : Nat) (b : Nat) (h0 : Heap) (n0 : Nat) (Z0 : n0 ≤ h0.size) (pf0 : Fld Z h0 a1 "com/example/weaverbird/weaverbird/sql/ItemColumn" "rankKeys" "Ljava/util/List;" (.ref b)) :
    own_CT l Z (⟨"com/example/weaverbird/weaverbird/sql/ItemColumn", "isEmpty", "()Z"⟩ : MethodName) prog_110_method_7_code 1 (some .boolean) ({ frames := 0, cells := 0, slots := 0, locals := 0 } : Room) #[(.ref a1)] h0 (Q_rm_emptyR Z a1 b h0 n0) := by
  refine own_of own_pn23052667 (Ls := #[.val (.ref a1)]) (fun m => own_ef_rm_emptyR m a1) ?_
  intro p e s m below meth c T0 X0 hx hby hml hown hnm hret hZ e0 hlk
  have hown : s.vm.findClass "com/example/weaverbird/weaverbird/sql/ItemColumn" = some m.cls := hown
  have N0 := Fr.nil n0
  have lt_a1 : @LT.lt Nat _ a1 h0.size := pf0.lt
  refine own_via (T0.setTop (mkF m 1 #[.val (.ref a1)] [(.ref a1)])) (fun t k => XS.aloadN X0.here hx rfl (hb hby own_d4_0) rfl rfl k) ?_
  obtain ⟨T1, X1, e1, st1⟩ := getF X0 hx hZ hown (host := "") (Or.inl (hw _ (List.mem_of_getElem? (i := 24) rfl))) Via.refl e0 pf0 (g := (mkF m 1 #[.val (.ref a1)] [(.ref a1)])) rfl rfl (hb hby own_d4_1)
  refine own_via (T1.setTop (mkF m 4 #[.val (.ref a1)] [(.ref b)])) (st1) ?_
  refine own_via (T1.setTop (mkF m 29 #[.val (.ref a1)] [])) (fun t k => XS.ifnonnullYes X1.here hx rfl (pc0 := 4) (pc' := 29) rfl (hb hby own_d4_4) rfl (by decide) (by decide) k) ?_
  refine own_via (T1.setTop (mkF m 30 #[.val (.ref a1)] [(.int (0 : Int32))])) (fun t k => XS.iconst X1.here hx rfl (hb hby own_d4_29) k) ?_
  exact own_retN X1 hx hlk (t := .boolean) hret (by simp) (hb hby own_d4_30) e1 (⟨rfl, N0, rfl⟩) (by decide) (by decide)
theorem own_d4_7 : decode prog_110_method_7_code 7 = .ok (.aload_n 0, 1) := by decide +kernel
theorem own_d4_8 : decode prog_110_method_7_code 8 = .ok (.getfield 19, 3) := by decide +kernel
theorem own_d4_11 : decode prog_110_method_7_code 11 = .ok (.ifnonnull 18, 3) := by decide +kernel
theorem own_ef_rm_emptyW (m : MethodId) (x0 : Addr) : entryFrame m #[(.ref x0)] 1 = mkF m 0 #[.val (.ref x0)] [] := by first | (simp [entryFrame, mkF, argsToLocals, Value.category]; done) | rfl
def Q_rm_emptyW (Z : State) (a1 : Nat) (b : Nat) (h0 : Heap) (n0 : Nat) (v : Option Value) (h : Heap) (L : List Loc) : Prop := v = some (.int (0 : Int32)) ∧ Fr n0 L ∧ h = h0
set_option maxRecDepth 65536 in
set_option maxHeartbeats 40000000 in
theorem rm_emptyW (l : Launch) (Z : State) (a0 : Array Value) (hw : ∀ d ∈ tables_1, d.before a0 Z = true) (a1 : Nat) (b : Nat) (h0 : Heap) (n0 : Nat) (Z0 : n0 ≤ h0.size) (pf0 : Fld Z h0 a1 "com/example/weaverbird/weaverbird/sql/ItemColumn" "rankKeys" "Ljava/util/List;" .null) (pf1 : Fld Z h0 a1 "com/example/weaverbird/weaverbird/sql/ItemColumn" "written" "Lcom/example/weaverbird/weaverbird/sql/SqlText;" (.ref b)) :
    own_CT l Z (⟨"com/example/weaverbird/weaverbird/sql/ItemColumn", "isEmpty", "()Z"⟩ : MethodName) prog_110_method_7_code 1 (some .boolean) ({ frames := 0, cells := 0, slots := 0, locals := 0 } : Room) #[(.ref a1)] h0 (Q_rm_emptyW Z a1 b h0 n0) := by
  refine own_of own_pn23052667 (Ls := #[.val (.ref a1)]) (fun m => own_ef_rm_emptyW m a1) ?_
  intro p e s m below meth c T0 X0 hx hby hml hown hnm hret hZ e0 hlk
  have hown : s.vm.findClass "com/example/weaverbird/weaverbird/sql/ItemColumn" = some m.cls := hown
  have N0 := Fr.nil n0
  have lt_a1 : @LT.lt Nat _ a1 h0.size := pf0.lt
  refine own_via (T0.setTop (mkF m 1 #[.val (.ref a1)] [(.ref a1)])) (fun t k => XS.aloadN X0.here hx rfl (hb hby own_d4_0) rfl rfl k) ?_
  obtain ⟨T1, X1, e1, st1⟩ := getF X0 hx hZ hown (host := "") (Or.inl (hw _ (List.mem_of_getElem? (i := 24) rfl))) Via.refl e0 pf0 (g := (mkF m 1 #[.val (.ref a1)] [(.ref a1)])) rfl rfl (hb hby own_d4_1)
  refine own_via (T1.setTop (mkF m 4 #[.val (.ref a1)] [.null])) (st1) ?_
  refine own_via (T1.setTop (mkF m 7 #[.val (.ref a1)] [])) (fun t k => XS.ifnonnullNo X1.here hx rfl (hb hby own_d4_4) rfl k) ?_
  refine own_via (T1.setTop (mkF m 8 #[.val (.ref a1)] [(.ref a1)])) (fun t k => XS.aloadN X1.here hx rfl (hb hby own_d4_7) rfl rfl k) ?_
  obtain ⟨T2, X2, e2, st2⟩ := getF X1 hx hZ hown (host := "") (Or.inl (hw _ (List.mem_of_getElem? (i := 16) rfl))) Via.refl e1 pf1 (g := (mkF m 8 #[.val (.ref a1)] [(.ref a1)])) rfl rfl (hb hby own_d4_8)
  refine own_via (T2.setTop (mkF m 11 #[.val (.ref a1)] [(.ref b)])) (st2) ?_
  refine own_via (T2.setTop (mkF m 29 #[.val (.ref a1)] [])) (fun t k => XS.ifnonnullYes X2.here hx rfl (pc0 := 11) (pc' := 29) rfl (hb hby own_d4_11) rfl (by decide) (by decide) k) ?_
  refine own_via (T2.setTop (mkF m 30 #[.val (.ref a1)] [(.int (0 : Int32))])) (fun t k => XS.iconst X2.here hx rfl (hb hby own_d4_29) k) ?_
  exact own_retN X2 hx hlk (t := .boolean) hret (by simp) (hb hby own_d4_30) e2 (⟨rfl, N0, rfl⟩) (by decide) (by decide)
theorem own_d4_14 : decode prog_110_method_7_code 14 = .ok (.aload_n 0, 1) := by decide +kernel
theorem own_d4_15 : decode prog_110_method_7_code 15 = .ok (.getfield 12, 3) := by decide +kernel
theorem own_d4_18 : decode prog_110_method_7_code 18 = .ok (.aload_n 0, 1) := by decide +kernel
theorem own_d4_19 : decode prog_110_method_7_code 19 = .ok (.getfield 16, 3) := by decide +kernel
theorem own_d4_22 : decode prog_110_method_7_code 22 = .ok (.if_icmp .ne 7, 3) := by decide +kernel
theorem own_d4_25 : decode prog_110_method_7_code 25 = .ok (.iconst 1, 1) := by decide +kernel
theorem own_d4_26 : decode prog_110_method_7_code 26 = .ok (.goto 4, 3) := by decide +kernel
theorem own_ef_rm_empty (m : MethodId) (x0 : Addr) : entryFrame m #[(.ref x0)] 1 = mkF m 0 #[.val (.ref x0)] [] := by first | (simp [entryFrame, mkF, argsToLocals, Value.category]; done) | rfl
def Q_rm_empty (Z : State) (a1 : Nat) (pa : Int32) (qa : Int32) (h0 : Heap) (n0 : Nat) (v : Option Value) (h : Heap) (L : List Loc) : Prop := v = some (.int (if pa = qa then (1 : Int32) else 0)) ∧ Fr n0 L ∧ h = h0
set_option maxRecDepth 65536 in
set_option maxHeartbeats 40000000 in
theorem rm_empty (l : Launch) (Z : State) (a0 : Array Value) (hw : ∀ d ∈ tables_1, d.before a0 Z = true) (a1 : Nat) (pa : Int32) (qa : Int32) (h0 : Heap) (n0 : Nat) (Z0 : n0 ≤ h0.size) (pf0 : Fld Z h0 a1 "com/example/weaverbird/weaverbird/sql/ItemColumn" "rankKeys" "Ljava/util/List;" .null) (pf1 : Fld Z h0 a1 "com/example/weaverbird/weaverbird/sql/ItemColumn" "written" "Lcom/example/weaverbird/weaverbird/sql/SqlText;" .null) (pf2 : Fld Z h0 a1 "com/example/weaverbird/weaverbird/sql/ItemColumn" "from" "I" (.int pa)) (pf3 : Fld Z h0 a1 "com/example/weaverbird/weaverbird/sql/ItemColumn" "to" "I" (.int qa)) :
    own_CT l Z (⟨"com/example/weaverbird/weaverbird/sql/ItemColumn", "isEmpty", "()Z"⟩ : MethodName) prog_110_method_7_code 1 (some .boolean) ({ frames := 0, cells := 0, slots := 0, locals := 0 } : Room) #[(.ref a1)] h0 (Q_rm_empty Z a1 pa qa h0 n0) := by
  refine own_of own_pn23052667 (Ls := #[.val (.ref a1)]) (fun m => own_ef_rm_empty m a1) ?_
  intro p e s m below meth c T0 X0 hx hby hml hown hnm hret hZ e0 hlk
  have hown : s.vm.findClass "com/example/weaverbird/weaverbird/sql/ItemColumn" = some m.cls := hown
  have N0 := Fr.nil n0
  have lt_a1 : @LT.lt Nat _ a1 h0.size := pf0.lt
  refine own_via (T0.setTop (mkF m 1 #[.val (.ref a1)] [(.ref a1)])) (fun t k => XS.aloadN X0.here hx rfl (hb hby own_d4_0) rfl rfl k) ?_
  obtain ⟨T1, X1, e1, st1⟩ := getF X0 hx hZ hown (host := "") (Or.inl (hw _ (List.mem_of_getElem? (i := 24) rfl))) Via.refl e0 pf0 (g := (mkF m 1 #[.val (.ref a1)] [(.ref a1)])) rfl rfl (hb hby own_d4_1)
  refine own_via (T1.setTop (mkF m 4 #[.val (.ref a1)] [.null])) (st1) ?_
  refine own_via (T1.setTop (mkF m 7 #[.val (.ref a1)] [])) (fun t k => XS.ifnonnullNo X1.here hx rfl (hb hby own_d4_4) rfl k) ?_
  refine own_via (T1.setTop (mkF m 8 #[.val (.ref a1)] [(.ref a1)])) (fun t k => XS.aloadN X1.here hx rfl (hb hby own_d4_7) rfl rfl k) ?_
  obtain ⟨T2, X2, e2, st2⟩ := getF X1 hx hZ hown (host := "") (Or.inl (hw _ (List.mem_of_getElem? (i := 16) rfl))) Via.refl e1 pf1 (g := (mkF m 8 #[.val (.ref a1)] [(.ref a1)])) rfl rfl (hb hby own_d4_8)
  refine own_via (T2.setTop (mkF m 11 #[.val (.ref a1)] [.null])) (st2) ?_
  refine own_via (T2.setTop (mkF m 14 #[.val (.ref a1)] [])) (fun t k => XS.ifnonnullNo X2.here hx rfl (hb hby own_d4_11) rfl k) ?_
  refine own_via (T2.setTop (mkF m 15 #[.val (.ref a1)] [(.ref a1)])) (fun t k => XS.aloadN X2.here hx rfl (hb hby own_d4_14) rfl rfl k) ?_
  obtain ⟨T3, X3, e3, st3⟩ := getF X2 hx hZ hown (host := "") (Or.inl (hw _ (List.mem_of_getElem? (i := 12) rfl))) Via.refl e2 pf2 (g := (mkF m 15 #[.val (.ref a1)] [(.ref a1)])) rfl rfl (hb hby own_d4_15)
  refine own_via (T3.setTop (mkF m 18 #[.val (.ref a1)] [(.int pa)])) (st3) ?_
  refine own_via (T3.setTop (mkF m 19 #[.val (.ref a1)] [(.ref a1), (.int pa)])) (fun t k => XS.aloadN X3.here hx rfl (hb hby own_d4_18) rfl rfl k) ?_
  obtain ⟨T4, X4, e4, st4⟩ := getF X3 hx hZ hown (host := "") (Or.inl (hw _ (List.mem_of_getElem? (i := 14) rfl))) Via.refl e3 pf3 (g := (mkF m 19 #[.val (.ref a1)] [(.ref a1), (.int pa)])) rfl rfl (hb hby own_d4_19)
  refine own_via (T4.setTop (mkF m 22 #[.val (.ref a1)] [(.int qa), (.int pa)])) (st4) ?_
  by_cases hc : pa = qa
  · refine own_via (T4.setTop (mkF m 25 #[.val (.ref a1)] [])) (fun t k => XS.icmpNo X4.here hx rfl (hb hby own_d4_22) rfl (XT.ii_ne_f hc) k) ?_
    refine own_via (T4.setTop (mkF m 26 #[.val (.ref a1)] [(.int (1 : Int32))])) (fun t k => XS.iconst X4.here hx rfl (hb hby own_d4_25) k) ?_
    refine own_via (T4.setTop (mkF m 30 #[.val (.ref a1)] [(.int (1 : Int32))])) (fun t k => XS.goto X4.here hx rfl (pc0 := 26) (pc' := 30) rfl (hb hby own_d4_26) (by decide) (by decide) k) ?_
    exact own_retN X4 hx hlk (t := .boolean) hret (by simp) (hb hby own_d4_30) e4 (⟨by simp [hc]; try rfl, N0, rfl⟩) (by decide) (by decide)
  · refine own_via (T4.setTop (mkF m 29 #[.val (.ref a1)] [])) (fun t k => XS.icmpYes X4.here hx rfl (pc0 := 22) (pc' := 29) rfl (hb hby own_d4_22) rfl (XT.ii_ne_t hc) (by decide) (by decide) k) ?_
    refine own_via (T4.setTop (mkF m 30 #[.val (.ref a1)] [(.int (0 : Int32))])) (fun t k => XS.iconst X4.here hx rfl (hb hby own_d4_29) k) ?_
    exact own_retN X4 hx hlk (t := .boolean) hret (by simp) (hb hby own_d4_30) e4 (⟨by simp [hc]; try rfl, N0, rfl⟩) (by decide) (by decide)
theorem own_pn16379924 : plainFor (⟨"com/example/weaverbird/weaverbird/sql/ItemColumn", "from", "()I"⟩ : MethodName) = true := by first | exact Jvm.Free.JP.mathPlain rfl (by decide +kernel) | exact plainFor_of_name (by first | (simp [plainName, overriddenIn]; done) | decide +kernel) | decide +kernel
theorem own_d5_0 : decode prog_110_method_5_code 0 = .ok (.aload_n 0, 1) := by decide +kernel
theorem own_d5_1 : decode prog_110_method_5_code 1 = .ok (.getfield 12, 3) := by decide +kernel
theorem own_d5_4 : decode prog_110_method_5_code 4 = .ok (.ireturn, 1) := by decide +kernel
theorem own_ef_rm_from (m : MethodId) (x0 : Addr) : entryFrame m #[(.ref x0)] 1 = mkF m 0 #[.val (.ref x0)] [] := by first | (simp [entryFrame, mkF, argsToLocals, Value.category]; done) | rfl
def Q_rm_from (Z : State) (a1 : Nat) (pa : Int32) (h0 : Heap) (n0 : Nat) (v : Option Value) (h : Heap) (L : List Loc) : Prop := v = some (.int pa) ∧ Fr n0 L ∧ h = h0
set_option maxRecDepth 65536 in
set_option maxHeartbeats 40000000 in
theorem rm_from (l : Launch) (Z : State) (a0 : Array Value) (hw : ∀ d ∈ tables_1, d.before a0 Z = true) (a1 : Nat) (pa : Int32) (h0 : Heap) (n0 : Nat) (Z0 : n0 ≤ h0.size) (pf0 : Fld Z h0 a1 "com/example/weaverbird/weaverbird/sql/ItemColumn" "from" "I" (.int pa)) :
    own_CT l Z (⟨"com/example/weaverbird/weaverbird/sql/ItemColumn", "from", "()I"⟩ : MethodName) prog_110_method_5_code 1 (some .int) ({ frames := 0, cells := 0, slots := 0, locals := 0 } : Room) #[(.ref a1)] h0 (Q_rm_from Z a1 pa h0 n0) := by
  refine own_of own_pn16379924 (Ls := #[.val (.ref a1)]) (fun m => own_ef_rm_from m a1) ?_
  intro p e s m below meth c T0 X0 hx hby hml hown hnm hret hZ e0 hlk
  have hown : s.vm.findClass "com/example/weaverbird/weaverbird/sql/ItemColumn" = some m.cls := hown
  have N0 := Fr.nil n0
  have lt_a1 : @LT.lt Nat _ a1 h0.size := pf0.lt
  refine own_via (T0.setTop (mkF m 1 #[.val (.ref a1)] [(.ref a1)])) (fun t k => XS.aloadN X0.here hx rfl (hb hby own_d5_0) rfl rfl k) ?_
  obtain ⟨T1, X1, e1, st1⟩ := getF X0 hx hZ hown (host := "") (Or.inl (hw _ (List.mem_of_getElem? (i := 12) rfl))) Via.refl e0 pf0 (g := (mkF m 1 #[.val (.ref a1)] [(.ref a1)])) rfl rfl (hb hby own_d5_1)
  refine own_via (T1.setTop (mkF m 4 #[.val (.ref a1)] [(.int pa)])) (st1) ?_
  exact own_retI X1 hx hlk hret (hb hby own_d5_4) e1 (⟨rfl, N0, rfl⟩) (by decide) (by decide)
theorem own_pn21395987 : plainFor (⟨"com/example/weaverbird/weaverbird/sql/ItemColumn", "to", "()I"⟩ : MethodName) = true := by first | exact Jvm.Free.JP.mathPlain rfl (by decide +kernel) | exact plainFor_of_name (by first | (simp [plainName, overriddenIn]; done) | decide +kernel) | decide +kernel
theorem own_d6_0 : decode prog_110_method_6_code 0 = .ok (.aload_n 0, 1) := by decide +kernel
theorem own_d6_1 : decode prog_110_method_6_code 1 = .ok (.getfield 16, 3) := by decide +kernel
theorem own_d6_4 : decode prog_110_method_6_code 4 = .ok (.ireturn, 1) := by decide +kernel
theorem own_ef_rm_to (m : MethodId) (x0 : Addr) : entryFrame m #[(.ref x0)] 1 = mkF m 0 #[.val (.ref x0)] [] := by first | (simp [entryFrame, mkF, argsToLocals, Value.category]; done) | rfl
def Q_rm_to (Z : State) (a1 : Nat) (pa : Int32) (h0 : Heap) (n0 : Nat) (v : Option Value) (h : Heap) (L : List Loc) : Prop := v = some (.int pa) ∧ Fr n0 L ∧ h = h0
set_option maxRecDepth 65536 in
set_option maxHeartbeats 40000000 in
theorem rm_to (l : Launch) (Z : State) (a0 : Array Value) (hw : ∀ d ∈ tables_1, d.before a0 Z = true) (a1 : Nat) (pa : Int32) (h0 : Heap) (n0 : Nat) (Z0 : n0 ≤ h0.size) (pf0 : Fld Z h0 a1 "com/example/weaverbird/weaverbird/sql/ItemColumn" "to" "I" (.int pa)) :
    own_CT l Z (⟨"com/example/weaverbird/weaverbird/sql/ItemColumn", "to", "()I"⟩ : MethodName) prog_110_method_6_code 1 (some .int) ({ frames := 0, cells := 0, slots := 0, locals := 0 } : Room) #[(.ref a1)] h0 (Q_rm_to Z a1 pa h0 n0) := by
  refine own_of own_pn21395987 (Ls := #[.val (.ref a1)]) (fun m => own_ef_rm_to m a1) ?_
  intro p e s m below meth c T0 X0 hx hby hml hown hnm hret hZ e0 hlk
  have hown : s.vm.findClass "com/example/weaverbird/weaverbird/sql/ItemColumn" = some m.cls := hown
  have N0 := Fr.nil n0
  have lt_a1 : @LT.lt Nat _ a1 h0.size := pf0.lt
  refine own_via (T0.setTop (mkF m 1 #[.val (.ref a1)] [(.ref a1)])) (fun t k => XS.aloadN X0.here hx rfl (hb hby own_d6_0) rfl rfl k) ?_
  obtain ⟨T1, X1, e1, st1⟩ := getF X0 hx hZ hown (host := "") (Or.inl (hw _ (List.mem_of_getElem? (i := 14) rfl))) Via.refl e0 pf0 (g := (mkF m 1 #[.val (.ref a1)] [(.ref a1)])) rfl rfl (hb hby own_d6_1)
  refine own_via (T1.setTop (mkF m 4 #[.val (.ref a1)] [(.int pa)])) (st1) ?_
  exact own_retI X1 hx hlk hret (hb hby own_d6_4) e1 (⟨rfl, N0, rfl⟩) (by decide) (by decide)
theorem own_pn92994162 : plainFor (⟨"com/example/weaverbird/weaverbird/sql/SqlText", "<init>", "(Ljava/lang/String;[I)V"⟩ : MethodName) = true := by first | exact Jvm.Free.JP.mathPlain rfl (by decide +kernel) | exact plainFor_of_name (by first | (simp [plainName, overriddenIn]; done) | decide +kernel) | decide +kernel
theorem own_d13_0 : decode prog_136_method_1_code 0 = .ok (.aload_n 0, 1) := by decide +kernel
theorem own_d13_1 : decode prog_136_method_1_code 1 = .ok (.invokespecial 1, 3) := by decide +kernel
theorem own_d13_4 : decode prog_136_method_1_code 4 = .ok (.aload_n 0, 1) := by decide +kernel
theorem own_d13_5 : decode prog_136_method_1_code 5 = .ok (.aload_n 1, 1) := by decide +kernel
theorem own_d13_6 : decode prog_136_method_1_code 6 = .ok (.putfield 7, 3) := by decide +kernel
theorem own_d13_9 : decode prog_136_method_1_code 9 = .ok (.aload_n 0, 1) := by decide +kernel
theorem own_d13_10 : decode prog_136_method_1_code 10 = .ok (.aload_n 2, 1) := by decide +kernel
theorem own_d13_11 : decode prog_136_method_1_code 11 = .ok (.putfield 13, 3) := by decide +kernel
theorem own_d13_14 : decode prog_136_method_1_code 14 = .ok (.return_, 1) := by decide +kernel
theorem own_ef_rm_sqlInit (m : MethodId) (x0 : Addr) (x1 : Addr) (x2 : Addr) : entryFrame m #[(.ref x0), (.ref x1), (.ref x2)] 3 = mkF m 0 #[.val (.ref x0), .val (.ref x1), .val (.ref x2)] [] := by first | (simp [entryFrame, mkF, argsToLocals, Value.category]; done) | rfl
def Q_rm_sqlInit (Z : State) (a1 : Nat) (a2 : Nat) (a3 : Nat) (u0 : Value) (u1 : Value) (h0 : Heap) (n0 : Nat) (v : Option Value) (h : Heap) (L : List Loc) : Prop := v = none ∧ Fr n0 L ∧ Keep h0 h [a1]
set_option maxRecDepth 65536 in
set_option maxHeartbeats 40000000 in
theorem rm_sqlInit (l : Launch) (Z : State) (a0 : Array Value) (hw : ∀ d ∈ tables_1, d.before a0 Z = true) (a1 : Nat) (a2 : Nat) (a3 : Nat) (u0 : Value) (u1 : Value) (h0 : Heap) (n0 : Nat) (Z0 : n0 ≤ h0.size) (pf0 : Exa Z h0 a1 "com/example/weaverbird/weaverbird/sql/SqlText") (pf1 : Fld Z h0 a1 "com/example/weaverbird/weaverbird/sql/SqlText" "text" "Ljava/lang/String;" u0) (pf2 : Fld Z h0 a1 "com/example/weaverbird/weaverbird/sql/SqlText" "parameters" "[I" u1) (g1 : n0 ≤ a1) :
    own_CT l Z (⟨"com/example/weaverbird/weaverbird/sql/SqlText", "<init>", "(Ljava/lang/String;[I)V"⟩ : MethodName) prog_136_method_1_code 3 none ({ frames := 1, cells := 0, slots := 0, locals := 12 } : Room) #[(.ref a1), (.ref a2), (.ref a3)] h0 (Q_rm_sqlInit Z a1 a2 a3 u0 u1 h0 n0) := by
  refine own_of own_pn92994162 (Ls := #[.val (.ref a1), .val (.ref a2), .val (.ref a3)]) (fun m => own_ef_rm_sqlInit m a1 a2 a3) ?_
  intro p e s m below meth c T0 X0 hx hby hml hown hnm hret hZ e0 hlk
  have hown : s.vm.findClass "com/example/weaverbird/weaverbird/sql/SqlText" = some m.cls := hown
  have N0 := Fr.nil n0
  have lt_a1 : @LT.lt Nat _ a1 h0.size := pf0.lt
  refine own_via (T0.setTop (mkF m 1 #[.val (.ref a1), .val (.ref a2), .val (.ref a3)] [(.ref a1)])) (fun t k => XS.aloadN X0.here hx rfl (hb hby own_d13_0) rfl rfl k) ?_
  obtain ⟨T1, X1, e1, st1⟩ := initO X0 hx hZ hown (hw _ (List.mem_of_getElem? (i := 80) rfl)) (hw _ (List.mem_of_getElem? (i := 10) rfl)) (hw _ (List.mem_of_getElem? (i := 11) rfl)) e0 (g := (mkF m 1 #[.val (.ref a1), .val (.ref a2), .val (.ref a3)] [(.ref a1)])) rfl (by rw [hml]; rfl) rfl (hb hby own_d13_1) (by decide) (W := 0) (by show 2 * 0 + _ ≤ _; exact Nat.le_of_eq rfl) (by decide)
  refine own_via (T1.setTop (mkF m 4 #[.val (.ref a1), .val (.ref a2), .val (.ref a3)] [])) (st1) ?_
  refine own_via (T1.setTop (mkF m 5 #[.val (.ref a1), .val (.ref a2), .val (.ref a3)] [(.ref a1)])) (fun t k => XS.aloadN X1.here hx rfl (hb hby own_d13_4) rfl rfl k) ?_
  refine own_via (T1.setTop (mkF m 6 #[.val (.ref a1), .val (.ref a2), .val (.ref a3)] [(.ref a2), (.ref a1)])) (fun t k => XS.aloadN X1.here hx rfl (hb hby own_d13_5) rfl rfl k) ?_
  obtain ⟨T2, h2, X2, e2, W2, st2⟩ := putF X1 hx hZ hown (host := "") (Or.inl (hw _ (List.mem_of_getElem? (i := 81) rfl))) Via.refl e1 pf1 pf0 (Or.inr ⟨(hw _ (List.mem_of_getElem? (i := 82) rfl)), rfl, hnm⟩) (hw _ (List.mem_of_getElem? (i := 74) rfl)) (ty := (.object "java/lang/String")) (by decide) rfl rfl (g := (mkF m 6 #[.val (.ref a1), .val (.ref a2), .val (.ref a3)] [(.ref a2), (.ref a1)])) rfl rfl (hb hby own_d13_6)
  have N2 := Fr.snoc X2 N0 (show @LE.le Nat _ _ _ by omega)
  have sz_h2 : h2.size = h0.size := Wr.size W2
  have K_h2 : Keep h0 h2 [a1] := (Keep.refl h0 [a1]).wr W2 (Or.inl (List.mem_of_getElem? (i := 0) rfl))
  have f3 : Fld Z h2 a1 "com/example/weaverbird/weaverbird/sql/SqlText" "text" "Ljava/lang/String;" (.ref a2) := (pf1.same W2)
  refine own_via (T2.setTop (mkF m 9 #[.val (.ref a1), .val (.ref a2), .val (.ref a3)] [])) (st2) ?_
  refine own_via (T2.setTop (mkF m 10 #[.val (.ref a1), .val (.ref a2), .val (.ref a3)] [(.ref a1)])) (fun t k => XS.aloadN X2.here hx rfl (hb hby own_d13_9) rfl rfl k) ?_
  refine own_via (T2.setTop (mkF m 11 #[.val (.ref a1), .val (.ref a2), .val (.ref a3)] [(.ref a3), (.ref a1)])) (fun t k => XS.aloadN X2.here hx rfl (hb hby own_d13_10) rfl rfl k) ?_
  have f4 : Fld Z h2 a1 "com/example/weaverbird/weaverbird/sql/SqlText" "parameters" "[I" u1 := (pf2.other W2 (Or.inr (slot_ne (Or.inr (hw _ (List.mem_of_getElem? (i := 84) rfl))) (Or.inr (hw _ (List.mem_of_getElem? (i := 82) rfl))) (by decide) (t := (.array .int)) (t' := (.object "java/lang/String")) (by decide) (by decide))))
  have f5 : Exa Z h2 a1 "com/example/weaverbird/weaverbird/sql/SqlText" := (pf0.wr W2)
  obtain ⟨T6, h6, X6, e6, W6, st6⟩ := putF X2 hx hZ hown (host := "") (Or.inl (hw _ (List.mem_of_getElem? (i := 83) rfl))) Via.refl e2 f4 f5 (Or.inr ⟨(hw _ (List.mem_of_getElem? (i := 84) rfl)), rfl, hnm⟩) (hw _ (List.mem_of_getElem? (i := 74) rfl)) (ty := (.array .int)) (by decide) rfl rfl (g := (mkF m 11 #[.val (.ref a1), .val (.ref a2), .val (.ref a3)] [(.ref a3), (.ref a1)])) rfl rfl (hb hby own_d13_11)
  have N6 := Fr.snoc X6 N2 (show @LE.le Nat _ _ _ by omega)
  have sz_h6 : h6.size = h2.size := Wr.size W6
  have K_h6 : Keep h0 h6 [a1] := K_h2.wr W6 (Or.inl (List.mem_of_getElem? (i := 0) rfl))
  have f7 : Fld Z h6 a1 "com/example/weaverbird/weaverbird/sql/SqlText" "parameters" "[I" (.ref a3) := (f4.same W6)
  refine own_via (T6.setTop (mkF m 14 #[.val (.ref a1), .val (.ref a2), .val (.ref a3)] [])) (st6) ?_
  exact own_ret0 X6 hx hlk hret (hb hby own_d13_14) e6 (⟨rfl, N6, K_h6⟩) (by decide) (by decide)
theorem own_pn11713691 : plainFor (⟨"com/example/weaverbird/weaverbird/sql/SqlText", "of", "(Ljava/lang/String;)Lcom/example/weaverbird/weaverbird/sql/SqlText;"⟩ : MethodName) = true := by first | exact Jvm.Free.JP.mathPlain rfl (by decide +kernel) | exact plainFor_of_name (by first | (simp [plainName, overriddenIn]; done) | decide +kernel) | decide +kernel
theorem own_d12_0 : decode prog_136_method_2_code 0 = .ok (.new 8, 3) := by decide +kernel
theorem own_d12_3 : decode prog_136_method_2_code 3 = .ok (.dup, 1) := by decide +kernel
theorem own_d12_4 : decode prog_136_method_2_code 4 = .ok (.aload_n 0, 1) := by decide +kernel
theorem own_d12_5 : decode prog_136_method_2_code 5 = .ok (.getstatic 17, 3) := by decide +kernel
theorem own_d12_8 : decode prog_136_method_2_code 8 = .ok (.invokespecial 20, 3) := by decide +kernel
theorem own_pd68501570 : parseMethodDescriptor "(Ljava/lang/String;[I)V" = some ⟨[(.object "java/lang/String"), (.array .int)], none⟩ := by decide +kernel
theorem own_d12_11 : decode prog_136_method_2_code 11 = .ok (.areturn, 1) := by decide +kernel
theorem own_ef_rm_sqlOf (m : MethodId) (x0 : Addr) : entryFrame m #[(.ref x0)] 1 = mkF m 0 #[.val (.ref x0)] [] := by first | (simp [entryFrame, mkF, argsToLocals, Value.category]; done) | rfl
def Q_rm_sqlOf (Z : State) (a1 : Nat) (nm : Nat) (h0 : Heap) (n0 : Nat) (v : Option Value) (h : Heap) (L : List Loc) : Prop := ∃ (b : Nat), v = some (.ref b) ∧ Fr n0 L ∧ Keep h0 h [] ∧ Exa Z h b "com/example/weaverbird/weaverbird/sql/SqlText"
set_option maxRecDepth 65536 in
set_option maxHeartbeats 40000000 in
theorem rm_sqlOf (l : Launch) (Z : State) (a0 : Array Value) (hw : ∀ d ∈ tables_1, d.before a0 Z = true) (a1 : Nat) (nm : Nat) (h0 : Heap) (n0 : Nat) (Z0 : n0 ≤ h0.size) (pf0 : Sta Z Z.heap "com/example/weaverbird/weaverbird/sql/SqlText" "NO_MARKERS" "[I" (.ref nm)) (pf1 : Old Z n0 h0) :
    own_CT l Z (⟨"com/example/weaverbird/weaverbird/sql/SqlText", "of", "(Ljava/lang/String;)Lcom/example/weaverbird/weaverbird/sql/SqlText;"⟩ : MethodName) prog_136_method_2_code 1 (some (.object "com/example/weaverbird/weaverbird/sql/SqlText")) ({ frames := 2, cells := 1, slots := 2, locals := 27 } : Room) #[(.ref a1)] h0 (Q_rm_sqlOf Z a1 nm h0 n0) := by
  refine own_of own_pn11713691 (Ls := #[.val (.ref a1)]) (fun m => own_ef_rm_sqlOf m a1) ?_
  intro p e s m below meth c T0 X0 hx hby hml hown hnm hret hZ e0 hlk
  have hown : s.vm.findClass "com/example/weaverbird/weaverbird/sql/SqlText" = some m.cls := hown
  have N0 := Fr.nil n0
  obtain ⟨T1, h1, X1, e1, E1, A1, D1, U1, st1⟩ := newO X0 hx hZ hown (hw _ (List.mem_of_getElem? (i := 73) rfl)) (hw _ (List.mem_of_getElem? (i := 74) rfl)) (hw _ (List.mem_of_getElem? (i := 71) rfl)) e0 (g := (mkF m 0 #[.val (.ref a1)] [])) rfl (hb hby own_d12_0) (by decide) (by decide)
  obtain ⟨o1, g1⟩ : ∃ z, z = h0.size := ⟨_, rfl⟩
  rw [← g1] at A1 D1 U1 st1
  have sz_h1 : h0.size ≤ h1.size := E1.1
  have K_h1 : Keep h0 h1 [] := (Keep.refl h0 []).ext E1
  have lt_o1 : @LT.lt Nat _ o1 h1.size := A1.lt
  refine own_via (T1.setTop (mkF m 3 #[.val (.ref a1)] [(.ref o1)])) (st1) ?_
  refine own_via (T1.setTop (mkF m 4 #[.val (.ref a1)] [(.ref o1), (.ref o1)])) (fun t k => XS.dup X1.here hx rfl (hb hby own_d12_3) rfl rfl k) ?_
  refine own_via (T1.setTop (mkF m 5 #[.val (.ref a1)] [(.ref a1), (.ref o1), (.ref o1)])) (fun t k => XS.aloadN X1.here hx rfl (hb hby own_d12_4) rfl rfl k) ?_
  have f2 : Old Z n0 h1 := (pf1.ext E1)
  obtain ⟨T3, X3, e3, st3⟩ := getS X1 hx hZ (host := "") hown (hw _ (List.mem_of_getElem? (i := 75) rfl)) Via.refl e1 (pf0.ext f2.2) (g := (mkF m 5 #[.val (.ref a1)] [(.ref a1), (.ref o1), (.ref o1)])) rfl (hb hby own_d12_5)
  refine own_via (T3.setTop (mkF m 8 #[.val (.ref a1)] [(.ref nm), (.ref a1), (.ref o1), (.ref o1)])) (st3) ?_
  have f4 : Fld Z h1 o1 "com/example/weaverbird/weaverbird/sql/SqlText" "text" "Ljava/lang/String;" .null := (D1 (Or.inr (hw _ (List.mem_of_getElem? (i := 82) rfl))) (ty := (.object "java/lang/String")) (by decide))
  have f5 : Fld Z h1 o1 "com/example/weaverbird/weaverbird/sql/SqlText" "parameters" "[I" .null := (D1 (Or.inr (hw _ (List.mem_of_getElem? (i := 84) rfl))) (ty := (.array .int)) (by decide))
  obtain ⟨v6, T6, h6, L6, X6, e6, q6, st6⟩ := own_cI X3 hx hZ hown (hw _ (List.mem_of_getElem? (i := 77) rfl)) (hw _ (List.mem_of_getElem? (i := 78) rfl)) (hw _ (List.mem_of_getElem? (i := 79) rfl)) rfl (by decide) (W := 1) (own_bk (rm_sqlInit l Z a0 hw o1 a1 nm .null .null h1 n0 (by omega) A1 f4 f5 (show @LE.le Nat _ _ _ by omega)) hZ (hw _ (List.mem_of_getElem? (i := 79) rfl)) (hw _ (List.mem_of_getElem? (i := 71) rfl)) (by decide) (by decide)) e3 (a := o1) (Ls := #[.val (.ref a1)]) (by rw [hml]; rfl) (argsL := [(.ref a1), (.ref nm)]) (rest := [(.ref o1)]) rfl (lenOf own_pd68501570 rfl) rfl (Nat.le_of_eq rfl) (hb hby own_d12_8) (by decide) (by decide)
  obtain ⟨rfl, Nq6, Kq6⟩ := q6
  have N6 := Fr.app N0 Nq6
  have sz_h6 : h1.size ≤ h6.size := Kq6.1
  have K_h6 : Keep h0 h6 [] := K_h1.trans Kq6 (allS (Or.inr (show @LE.le Nat _ _ _ by omega)) all0)
  refine own_via (T6.setTop (mkF m 11 #[.val (.ref a1)] [(.ref o1)])) (st6) ?_
  have f7 : Exa Z h6 o1 "com/example/weaverbird/weaverbird/sql/SqlText" := (A1.keep Kq6)
  exact own_retA X6 hx hlk hret rfl rfl (hb hby own_d12_11) e6 (⟨o1, rfl, N6, K_h6, f7⟩) (by decide) (by decide)
theorem own_pn58664926 : plainFor (⟨"java/util/AbstractCollection", "<init>", "()V"⟩ : MethodName) = true := by first | exact Jvm.Free.JP.mathPlain rfl (by decide +kernel) | exact plainFor_of_name (by first | (simp [plainName, overriddenIn]; done) | decide +kernel) | decide +kernel
theorem own_d17_0 : decode jdk_22_method_1_code 0 = .ok (.aload_n 0, 1) := by decide +kernel
theorem own_d17_1 : decode jdk_22_method_1_code 1 = .ok (.invokespecial 1, 3) := by decide +kernel
theorem own_d17_4 : decode jdk_22_method_1_code 4 = .ok (.return_, 1) := by decide +kernel
theorem own_ef_rm_abc (m : MethodId) (x0 : Addr) : entryFrame m #[(.ref x0)] 1 = mkF m 0 #[.val (.ref x0)] [] := by first | (simp [entryFrame, mkF, argsToLocals, Value.category]; done) | rfl
def Q_rm_abc (Z : State) (a1 : Nat) (h0 : Heap) (n0 : Nat) (v : Option Value) (h : Heap) (L : List Loc) : Prop := v = none ∧ Fr n0 L ∧ h = h0
set_option maxRecDepth 65536 in
set_option maxHeartbeats 40000000 in
theorem rm_abc (l : Launch) (Z : State) (a0 : Array Value) (hw : ∀ d ∈ tables_1, d.before a0 Z = true) (a1 : Nat) (h0 : Heap) (n0 : Nat) (Z0 : n0 ≤ h0.size)  :
    own_CT l Z (⟨"java/util/AbstractCollection", "<init>", "()V"⟩ : MethodName) jdk_22_method_1_code 1 none ({ frames := 1, cells := 0, slots := 0, locals := 12 } : Room) #[(.ref a1)] h0 (Q_rm_abc Z a1 h0 n0) := by
  refine own_of own_pn58664926 (Ls := #[.val (.ref a1)]) (fun m => own_ef_rm_abc m a1) ?_
  intro p e s m below meth c T0 X0 hx hby hml hown hnm hret hZ e0 hlk
  have hown : s.vm.findClass "java/util/AbstractCollection" = some m.cls := hown
  have N0 := Fr.nil n0
  refine own_via (T0.setTop (mkF m 1 #[.val (.ref a1)] [(.ref a1)])) (fun t k => XS.aloadN X0.here hx rfl (hb hby own_d17_0) rfl rfl k) ?_
  obtain ⟨T1, X1, e1, st1⟩ := initO X0 hx hZ hown (hw _ (List.mem_of_getElem? (i := 106) rfl)) (hw _ (List.mem_of_getElem? (i := 10) rfl)) (hw _ (List.mem_of_getElem? (i := 11) rfl)) e0 (g := (mkF m 1 #[.val (.ref a1)] [(.ref a1)])) rfl (by rw [hml]; rfl) rfl (hb hby own_d17_1) (by decide) (W := 0) (by show 2 * 0 + _ ≤ _; exact Nat.le_of_eq rfl) (by decide)
  refine own_via (T1.setTop (mkF m 4 #[.val (.ref a1)] [])) (st1) ?_
  exact own_ret0 X1 hx hlk hret (hb hby own_d17_4) e1 (⟨rfl, N0, rfl⟩) (by decide) (by decide)
theorem own_pn76549384 : plainFor (⟨"java/util/AbstractList", "<init>", "()V"⟩ : MethodName) = true := by first | exact Jvm.Free.JP.mathPlain rfl (by decide +kernel) | exact plainFor_of_name (by first | (simp [plainName, overriddenIn]; done) | decide +kernel) | decide +kernel
theorem own_d16_0 : decode jdk_39_method_1_code 0 = .ok (.aload_n 0, 1) := by decide +kernel
theorem own_d16_1 : decode jdk_39_method_1_code 1 = .ok (.invokespecial 1, 3) := by decide +kernel
theorem own_pd25328131 : parseMethodDescriptor "()V" = some ⟨[], none⟩ := by decide +kernel
theorem own_d16_4 : decode jdk_39_method_1_code 4 = .ok (.aload_n 0, 1) := by decide +kernel
theorem own_d16_5 : decode jdk_39_method_1_code 5 = .ok (.iconst 0, 1) := by decide +kernel
theorem own_d16_6 : decode jdk_39_method_1_code 6 = .ok (.putfield 7, 3) := by decide +kernel
theorem own_d16_9 : decode jdk_39_method_1_code 9 = .ok (.return_, 1) := by decide +kernel
theorem own_ef_rm_abl (m : MethodId) (x0 : Addr) : entryFrame m #[(.ref x0)] 1 = mkF m 0 #[.val (.ref x0)] [] := by first | (simp [entryFrame, mkF, argsToLocals, Value.category]; done) | rfl
def Q_rm_abl (Z : State) (a1 : Nat) (u0 : Value) (u1 : Value) (h0 : Heap) (n0 : Nat) (v : Option Value) (h : Heap) (L : List Loc) : Prop := v = none ∧ Fr n0 L ∧ Keep h0 h [a1] ∧ Fld Z h a1 "java/util/ArrayList" "elementData" "[Ljava/lang/Object;" u1
set_option maxRecDepth 65536 in
set_option maxHeartbeats 40000000 in
theorem rm_abl (l : Launch) (Z : State) (a0 : Array Value) (hw : ∀ d ∈ tables_1, d.before a0 Z = true) (a1 : Nat) (u0 : Value) (u1 : Value) (h0 : Heap) (n0 : Nat) (Z0 : n0 ≤ h0.size) (pf0 : Exa Z h0 a1 "java/util/ArrayList") (pf1 : Fld Z h0 a1 "java/util/AbstractList" "modCount" "I" u0) (pf2 : Fld Z h0 a1 "java/util/ArrayList" "elementData" "[Ljava/lang/Object;" u1) (g1 : n0 ≤ a1) :
    own_CT l Z (⟨"java/util/AbstractList", "<init>", "()V"⟩ : MethodName) jdk_39_method_1_code 1 none ({ frames := 2, cells := 0, slots := 0, locals := 24 } : Room) #[(.ref a1)] h0 (Q_rm_abl Z a1 u0 u1 h0 n0) := by
  refine own_of own_pn76549384 (Ls := #[.val (.ref a1)]) (fun m => own_ef_rm_abl m a1) ?_
  intro p e s m below meth c T0 X0 hx hby hml hown hnm hret hZ e0 hlk
  have hown : s.vm.findClass "java/util/AbstractList" = some m.cls := hown
  have N0 := Fr.nil n0
  have lt_a1 : @LT.lt Nat _ a1 h0.size := pf0.lt
  refine own_via (T0.setTop (mkF m 1 #[.val (.ref a1)] [(.ref a1)])) (fun t k => XS.aloadN X0.here hx rfl (hb hby own_d16_0) rfl rfl k) ?_
  obtain ⟨v1, T1, h1, L1, X1, e1, q1, st1⟩ := own_cI X0 hx hZ hown (hw _ (List.mem_of_getElem? (i := 100) rfl)) (hw _ (List.mem_of_getElem? (i := 101) rfl)) (hw _ (List.mem_of_getElem? (i := 105) rfl)) rfl (by decide) (W := 0) (own_bk (rm_abc l Z a0 hw a1 h0 n0 (by omega)) hZ (hw _ (List.mem_of_getElem? (i := 105) rfl)) (hw _ (List.mem_of_getElem? (i := 104) rfl)) (by decide) (by decide)) e0 (a := a1) (Ls := #[.val (.ref a1)]) (by rw [hml]; rfl) (argsL := []) (rest := []) rfl (lenOf own_pd25328131 rfl) rfl (Nat.le_of_eq rfl) (hb hby own_d16_1) (by decide) (by decide)
  obtain ⟨rfl, Nq1, eq1⟩ := q1
  have N1 := Fr.app N0 Nq1
  replace e1 := e1.trans eq1
  refine own_via (T1.setTop (mkF m 4 #[.val (.ref a1)] [])) (st1) ?_
  refine own_via (T1.setTop (mkF m 5 #[.val (.ref a1)] [(.ref a1)])) (fun t k => XS.aloadN X1.here hx rfl (hb hby own_d16_4) rfl rfl k) ?_
  refine own_via (T1.setTop (mkF m 6 #[.val (.ref a1)] [(.int (0 : Int32)), (.ref a1)])) (fun t k => XS.iconst X1.here hx rfl (hb hby own_d16_5) k) ?_
  obtain ⟨T2, h2, X2, e2, W2, st2⟩ := putF X1 hx hZ hown (host := "") (Or.inl (hw _ (List.mem_of_getElem? (i := 107) rfl))) Via.refl e1 pf1 pf0 (Or.inl (hw _ (List.mem_of_getElem? (i := 108) rfl))) (hw _ (List.mem_of_getElem? (i := 89) rfl)) (ty := .int) (by decide) rfl rfl (g := (mkF m 6 #[.val (.ref a1)] [(.int (0 : Int32)), (.ref a1)])) rfl rfl (hb hby own_d16_6)
  have N2 := Fr.snoc X2 N1 (show @LE.le Nat _ _ _ by omega)
  have sz_h2 : h2.size = h0.size := Wr.size W2
  have K_h2 : Keep h0 h2 [a1] := (Keep.refl h0 [a1]).wr W2 (Or.inl (List.mem_of_getElem? (i := 0) rfl))
  have f3 : Fld Z h2 a1 "java/util/AbstractList" "modCount" "I" (.int (0 : Int32)) := (pf1.same W2)
  refine own_via (T2.setTop (mkF m 9 #[.val (.ref a1)] [])) (st2) ?_
  have f4 : Fld Z h2 a1 "java/util/ArrayList" "elementData" "[Ljava/lang/Object;" u1 := (pf2.other W2 (Or.inr (slot_ne (Or.inl (hw _ (List.mem_of_getElem? (i := 111) rfl))) (Or.inl (hw _ (List.mem_of_getElem? (i := 108) rfl))) (by decide) (t := (.array (.object "java/lang/Object"))) (t' := .int) (by decide) (by decide))))
  exact own_ret0 X2 hx hlk hret (hb hby own_d16_9) e2 (⟨rfl, N2, K_h2, f4⟩) (by decide) (by decide)
theorem own_pn21368582 : plainFor (⟨"java/util/ArrayList", "<init>", "()V"⟩ : MethodName) = true := by first | exact Jvm.Free.JP.mathPlain rfl (by decide +kernel) | exact plainFor_of_name (by first | (simp [plainName, overriddenIn]; done) | decide +kernel) | decide +kernel
theorem own_d15_0 : decode jdk_38_method_2_code 0 = .ok (.aload_n 0, 1) := by decide +kernel
theorem own_d15_1 : decode jdk_38_method_2_code 1 = .ok (.invokespecial 1, 3) := by decide +kernel
theorem own_d15_4 : decode jdk_38_method_2_code 4 = .ok (.aload_n 0, 1) := by decide +kernel
theorem own_d15_5 : decode jdk_38_method_2_code 5 = .ok (.getstatic 39, 3) := by decide +kernel
theorem own_d15_8 : decode jdk_38_method_2_code 8 = .ok (.putfield 9, 3) := by decide +kernel
theorem own_d15_11 : decode jdk_38_method_2_code 11 = .ok (.return_, 1) := by decide +kernel
theorem own_ef_rm_al (m : MethodId) (x0 : Addr) : entryFrame m #[(.ref x0)] 1 = mkF m 0 #[.val (.ref x0)] [] := by first | (simp [entryFrame, mkF, argsToLocals, Value.category]; done) | rfl
def Q_rm_al (Z : State) (a1 : Nat) (u0 : Value) (u1 : Value) (dc : Nat) (h0 : Heap) (n0 : Nat) (v : Option Value) (h : Heap) (L : List Loc) : Prop := v = none ∧ Fr n0 L ∧ Keep h0 h [a1]
set_option maxRecDepth 65536 in
set_option maxHeartbeats 40000000 in
theorem rm_al (l : Launch) (Z : State) (a0 : Array Value) (hw : ∀ d ∈ tables_1, d.before a0 Z = true) (a1 : Nat) (u0 : Value) (u1 : Value) (dc : Nat) (h0 : Heap) (n0 : Nat) (Z0 : n0 ≤ h0.size) (pf0 : Exa Z h0 a1 "java/util/ArrayList") (pf1 : Fld Z h0 a1 "java/util/AbstractList" "modCount" "I" u0) (pf2 : Fld Z h0 a1 "java/util/ArrayList" "elementData" "[Ljava/lang/Object;" u1) (pf3 : Sta Z Z.heap "java/util/ArrayList" "DEFAULTCAPACITY_EMPTY_ELEMENTDATA" "[Ljava/lang/Object;" (.ref dc)) (pf4 : Old Z n0 h0) (g1 : n0 ≤ a1) :
    own_CT l Z (⟨"java/util/ArrayList", "<init>", "()V"⟩ : MethodName) jdk_38_method_2_code 1 none ({ frames := 3, cells := 0, slots := 0, locals := 36 } : Room) #[(.ref a1)] h0 (Q_rm_al Z a1 u0 u1 dc h0 n0) := by
  refine own_of own_pn21368582 (Ls := #[.val (.ref a1)]) (fun m => own_ef_rm_al m a1) ?_
  intro p e s m below meth c T0 X0 hx hby hml hown hnm hret hZ e0 hlk
  have hown : s.vm.findClass "java/util/ArrayList" = some m.cls := hown
  have N0 := Fr.nil n0
  have lt_a1 : @LT.lt Nat _ a1 h0.size := pf0.lt
  refine own_via (T0.setTop (mkF m 1 #[.val (.ref a1)] [(.ref a1)])) (fun t k => XS.aloadN X0.here hx rfl (hb hby own_d15_0) rfl rfl k) ?_
  obtain ⟨v1, T1, h1, L1, X1, e1, q1, st1⟩ := own_cI X0 hx hZ hown (hw _ (List.mem_of_getElem? (i := 94) rfl)) (hw _ (List.mem_of_getElem? (i := 95) rfl)) (hw _ (List.mem_of_getElem? (i := 99) rfl)) rfl (by decide) (W := 0) (own_bk (rm_abl l Z a0 hw a1 u0 u1 h0 n0 (by omega) pf0 pf1 pf2 (show @LE.le Nat _ _ _ by omega)) hZ (hw _ (List.mem_of_getElem? (i := 99) rfl)) (hw _ (List.mem_of_getElem? (i := 98) rfl)) (by decide) (by decide)) e0 (a := a1) (Ls := #[.val (.ref a1)]) (by rw [hml]; rfl) (argsL := []) (rest := []) rfl (lenOf own_pd25328131 rfl) rfl (Nat.le_of_eq rfl) (hb hby own_d15_1) (by decide) (by decide)
  obtain ⟨rfl, Nq1, Kq1, f2⟩ := q1
  have N1 := Fr.app N0 Nq1
  have sz_h1 : h0.size ≤ h1.size := Kq1.1
  have K_h1 : Keep h0 h1 [a1] := (Keep.refl h0 [a1]).trans Kq1 (allS (Or.inl (List.mem_of_getElem? (i := 0) rfl)) all0)
  refine own_via (T1.setTop (mkF m 4 #[.val (.ref a1)] [])) (st1) ?_
  refine own_via (T1.setTop (mkF m 5 #[.val (.ref a1)] [(.ref a1)])) (fun t k => XS.aloadN X1.here hx rfl (hb hby own_d15_4) rfl rfl k) ?_
  have f3 : Old Z n0 h1 := (pf4.keep Kq1 (allS (show @LE.le Nat _ _ _ by omega) all0))
  obtain ⟨T4, X4, e4, st4⟩ := getS X1 hx hZ (host := "") hown (hw _ (List.mem_of_getElem? (i := 109) rfl)) Via.refl e1 (pf3.ext f3.2) (g := (mkF m 5 #[.val (.ref a1)] [(.ref a1)])) rfl (hb hby own_d15_5)
  refine own_via (T4.setTop (mkF m 8 #[.val (.ref a1)] [(.ref dc), (.ref a1)])) (st4) ?_
  have f5 : Exa Z h1 a1 "java/util/ArrayList" := (pf0.keep Kq1)
  obtain ⟨T6, h6, X6, e6, W6, st6⟩ := putF X4 hx hZ hown (host := "") (Or.inl (hw _ (List.mem_of_getElem? (i := 110) rfl))) Via.refl e4 f2 f5 (Or.inl (hw _ (List.mem_of_getElem? (i := 111) rfl))) (hw _ (List.mem_of_getElem? (i := 89) rfl)) (ty := (.array (.object "java/lang/Object"))) (by decide) rfl rfl (g := (mkF m 8 #[.val (.ref a1)] [(.ref dc), (.ref a1)])) rfl rfl (hb hby own_d15_8)
  have N6 := Fr.snoc X6 N1 (show @LE.le Nat _ _ _ by omega)
  have sz_h6 : h6.size = h1.size := Wr.size W6
  have K_h6 : Keep h0 h6 [a1] := K_h1.wr W6 (Or.inl (List.mem_of_getElem? (i := 0) rfl))
  have f7 : Fld Z h6 a1 "java/util/ArrayList" "elementData" "[Ljava/lang/Object;" (.ref dc) := (f2.same W6)
  refine own_via (T6.setTop (mkF m 11 #[.val (.ref a1)] [])) (st6) ?_
  exact own_ret0 X6 hx hlk hret (hb hby own_d15_11) e6 (⟨rfl, N6, K_h6⟩) (by decide) (by decide)
theorem own_pn61972912 : plainFor (⟨"com/example/weaverbird/weaverbird/sql/ItemColumn", "rank", "(Ljava/util/List;)Lcom/example/weaverbird/weaverbird/sql/ItemColumn;"⟩ : MethodName) = true := by first | exact Jvm.Free.JP.mathPlain rfl (by decide +kernel) | exact plainFor_of_name (by first | (simp [plainName, overriddenIn]; done) | decide +kernel) | decide +kernel
theorem own_d18_0 : decode prog_110_method_4_code 0 = .ok (.new 2, 3) := by decide +kernel
theorem own_d18_3 : decode prog_110_method_4_code 3 = .ok (.dup, 1) := by decide +kernel
theorem own_d18_4 : decode prog_110_method_4_code 4 = .ok (.iconst 0, 1) := by decide +kernel
theorem own_d18_5 : decode prog_110_method_4_code 5 = .ok (.iconst 0, 1) := by decide +kernel
theorem own_d18_6 : decode prog_110_method_4_code 6 = .ok (.aconst_null, 1) := by decide +kernel
theorem own_d18_7 : decode prog_110_method_4_code 7 = .ok (.aconst_null, 1) := by decide +kernel
theorem own_d18_8 : decode prog_110_method_4_code 8 = .ok (.iconst 0, 1) := by decide +kernel
theorem own_d18_9 : decode prog_110_method_4_code 9 = .ok (.iconst 1, 1) := by decide +kernel
theorem own_d18_10 : decode prog_110_method_4_code 10 = .ok (.aload_n 0, 1) := by decide +kernel
theorem own_d18_11 : decode prog_110_method_4_code 11 = .ok (.invokespecial 1, 3) := by decide +kernel
theorem own_d18_14 : decode prog_110_method_4_code 14 = .ok (.areturn, 1) := by decide +kernel
theorem own_ef_rm_rank (m : MethodId) (x0 : Addr) : entryFrame m #[(.ref x0)] 1 = mkF m 0 #[.val (.ref x0)] [] := by first | (simp [entryFrame, mkF, argsToLocals, Value.category]; done) | rfl
def Q_rm_rank (Z : State) (a1 : Nat) (h0 : Heap) (n0 : Nat) (v : Option Value) (h : Heap) (L : List Loc) : Prop := ∃ (b : Nat), v = some (.ref b) ∧ Fr n0 L ∧ Keep h0 h [] ∧ Exa Z h b "com/example/weaverbird/weaverbird/sql/ItemColumn" ∧ Fld Z h b "com/example/weaverbird/weaverbird/sql/ItemColumn" "rankKeys" "Ljava/util/List;" (.ref a1) ∧ Fld Z h b "com/example/weaverbird/weaverbird/sql/ItemColumn" "written" "Lcom/example/weaverbird/weaverbird/sql/SqlText;" .null
set_option maxRecDepth 65536 in
set_option maxHeartbeats 40000000 in
theorem rm_rank (l : Launch) (Z : State) (a0 : Array Value) (hw : ∀ d ∈ tables_1, d.before a0 Z = true) (a1 : Nat) (h0 : Heap) (n0 : Nat) (Z0 : n0 ≤ h0.size)  :
    own_CT l Z (⟨"com/example/weaverbird/weaverbird/sql/ItemColumn", "rank", "(Ljava/util/List;)Lcom/example/weaverbird/weaverbird/sql/ItemColumn;"⟩ : MethodName) prog_110_method_4_code 1 (some (.object "com/example/weaverbird/weaverbird/sql/ItemColumn")) ({ frames := 2, cells := 1, slots := 7, locals := 32 } : Room) #[(.ref a1)] h0 (Q_rm_rank Z a1 h0 n0) := by
  refine own_of own_pn61972912 (Ls := #[.val (.ref a1)]) (fun m => own_ef_rm_rank m a1) ?_
  intro p e s m below meth c T0 X0 hx hby hml hown hnm hret hZ e0 hlk
  have hown : s.vm.findClass "com/example/weaverbird/weaverbird/sql/ItemColumn" = some m.cls := hown
  have N0 := Fr.nil n0
  obtain ⟨T1, h1, X1, e1, E1, A1, D1, U1, st1⟩ := newO X0 hx hZ hown (hw _ (List.mem_of_getElem? (i := 115) rfl)) (hw _ (List.mem_of_getElem? (i := 1) rfl)) (hw _ (List.mem_of_getElem? (i := 2) rfl)) e0 (g := (mkF m 0 #[.val (.ref a1)] [])) rfl (hb hby own_d18_0) (by decide) (by decide)
  obtain ⟨o1, g1⟩ : ∃ z, z = h0.size := ⟨_, rfl⟩
  rw [← g1] at A1 D1 U1 st1
  have sz_h1 : h0.size ≤ h1.size := E1.1
  have K_h1 : Keep h0 h1 [] := (Keep.refl h0 []).ext E1
  have lt_o1 : @LT.lt Nat _ o1 h1.size := A1.lt
  refine own_via (T1.setTop (mkF m 3 #[.val (.ref a1)] [(.ref o1)])) (st1) ?_
  refine own_via (T1.setTop (mkF m 4 #[.val (.ref a1)] [(.ref o1), (.ref o1)])) (fun t k => XS.dup X1.here hx rfl (hb hby own_d18_3) rfl rfl k) ?_
  refine own_via (T1.setTop (mkF m 5 #[.val (.ref a1)] [(.int (0 : Int32)), (.ref o1), (.ref o1)])) (fun t k => XS.iconst X1.here hx rfl (hb hby own_d18_4) k) ?_
  refine own_via (T1.setTop (mkF m 6 #[.val (.ref a1)] [(.int (0 : Int32)), (.int (0 : Int32)), (.ref o1), (.ref o1)])) (fun t k => XS.iconst X1.here hx rfl (hb hby own_d18_5) k) ?_
  refine own_via (T1.setTop (mkF m 7 #[.val (.ref a1)] [.null, (.int (0 : Int32)), (.int (0 : Int32)), (.ref o1), (.ref o1)])) (fun t k => XS.aconstNull X1.here hx rfl (hb hby own_d18_6) k) ?_
  refine own_via (T1.setTop (mkF m 8 #[.val (.ref a1)] [.null, .null, (.int (0 : Int32)), (.int (0 : Int32)), (.ref o1), (.ref o1)])) (fun t k => XS.aconstNull X1.here hx rfl (hb hby own_d18_7) k) ?_
  refine own_via (T1.setTop (mkF m 9 #[.val (.ref a1)] [(.int (0 : Int32)), .null, .null, (.int (0 : Int32)), (.int (0 : Int32)), (.ref o1), (.ref o1)])) (fun t k => XS.iconst X1.here hx rfl (hb hby own_d18_8) k) ?_
  refine own_via (T1.setTop (mkF m 10 #[.val (.ref a1)] [(.int (1 : Int32)), (.int (0 : Int32)), .null, .null, (.int (0 : Int32)), (.int (0 : Int32)), (.ref o1), (.ref o1)])) (fun t k => XS.iconst X1.here hx rfl (hb hby own_d18_9) k) ?_
  refine own_via (T1.setTop (mkF m 11 #[.val (.ref a1)] [(.ref a1), (.int (1 : Int32)), (.int (0 : Int32)), .null, .null, (.int (0 : Int32)), (.int (0 : Int32)), (.ref o1), (.ref o1)])) (fun t k => XS.aloadN X1.here hx rfl (hb hby own_d18_10) rfl rfl k) ?_
  have f2 : Fld Z h1 o1 "com/example/weaverbird/weaverbird/sql/ItemColumn" "from" "I" (.int (0 : Int32)) := (D1 (Or.inr (hw _ (List.mem_of_getElem? (i := 13) rfl))) (ty := .int) (by decide))
  have f3 : Fld Z h1 o1 "com/example/weaverbird/weaverbird/sql/ItemColumn" "to" "I" (.int (0 : Int32)) := (D1 (Or.inr (hw _ (List.mem_of_getElem? (i := 15) rfl))) (ty := .int) (by decide))
  have f4 : Fld Z h1 o1 "com/example/weaverbird/weaverbird/sql/ItemColumn" "written" "Lcom/example/weaverbird/weaverbird/sql/SqlText;" .null := (D1 (Or.inr (hw _ (List.mem_of_getElem? (i := 17) rfl))) (ty := (.object "com/example/weaverbird/weaverbird/sql/SqlText")) (by decide))
  have f5 : Fld Z h1 o1 "com/example/weaverbird/weaverbird/sql/ItemColumn" "label" "Ljava/lang/String;" .null := (D1 (Or.inr (hw _ (List.mem_of_getElem? (i := 19) rfl))) (ty := (.object "java/lang/String")) (by decide))
  have f6 : Fld Z h1 o1 "com/example/weaverbird/weaverbird/sql/ItemColumn" "parameter" "I" (.int (0 : Int32)) := (D1 (Or.inr (hw _ (List.mem_of_getElem? (i := 21) rfl))) (ty := .int) (by decide))
  have f7 : Fld Z h1 o1 "com/example/weaverbird/weaverbird/sql/ItemColumn" "aggregateArgument" "Z" (.int (0 : Int32)) := (D1 (Or.inr (hw _ (List.mem_of_getElem? (i := 23) rfl))) (ty := .boolean) (by decide))
  have f8 : Fld Z h1 o1 "com/example/weaverbird/weaverbird/sql/ItemColumn" "rankKeys" "Ljava/util/List;" .null := (D1 (Or.inr (hw _ (List.mem_of_getElem? (i := 25) rfl))) (ty := (.object "java/util/List")) (by decide))
  obtain ⟨v9, T9, h9, L9, X9, e9, q9, st9⟩ := own_cI X1 hx hZ hown (hw _ (List.mem_of_getElem? (i := 6) rfl)) (hw _ (List.mem_of_getElem? (i := 7) rfl)) (hw _ (List.mem_of_getElem? (i := 8) rfl)) rfl (by decide) (W := 1) (own_bk (rm_init7 l Z a0 hw o1 (0 : Int32) (0 : Int32) .null (0 : Int32) (1 : Int32) (.ref a1) (.int (0 : Int32)) (.int (0 : Int32)) .null .null (.int (0 : Int32)) (.int (0 : Int32)) .null h1 n0 (by omega) A1 f2 f3 f4 f5 f6 f7 f8 rfl rfl (show @LE.le Nat _ _ _ by omega)) hZ (hw _ (List.mem_of_getElem? (i := 8) rfl)) (hw _ (List.mem_of_getElem? (i := 2) rfl)) (by decide) (by decide)) e1 (a := o1) (Ls := #[.val (.ref a1)]) (by rw [hml]; rfl) (argsL := [(.int (0 : Int32)), (.int (0 : Int32)), .null, .null, (.int (0 : Int32)), (.int (1 : Int32)), (.ref a1)]) (rest := [(.ref o1)]) rfl (lenOf own_pd68318256 rfl) rfl (Nat.le_of_eq rfl) (hb hby own_d18_11) (by decide) (by decide)
  obtain ⟨rfl, Nq9, Kq9, f10, f11, f12, f13, f14⟩ := q9
  have N9 := Fr.app N0 Nq9
  have sz_h9 : h1.size ≤ h9.size := Kq9.1
  have K_h9 : Keep h0 h9 [] := K_h1.trans Kq9 (allS (Or.inr (show @LE.le Nat _ _ _ by omega)) all0)
  refine own_via (T9.setTop (mkF m 14 #[.val (.ref a1)] [(.ref o1)])) (st9) ?_
  exact own_retA X9 hx hlk hret rfl rfl (hb hby own_d18_14) e9 (⟨o1, rfl, N9, K_h9, f10, f14, f13⟩) (by decide) (by decide)
theorem own_hws {Z : State} {a0 : Array Value} (hw : ∀ d ∈ tables_1, d.before a0 Z = true) : ∀ d ∈ StrChars.Road.words, d.before a0 Z = true := fun d hd => hw d ((by decide +kernel : ∀ d ∈ StrChars.Road.words, d ∈ tables_1) d hd)
theorem own_pn41222640 : plainFor (⟨"com/example/weaverbird/weaverbird/sql/ItemColumnIsEmptyPinLaw", "law", "(IIII)Z"⟩ : MethodName) = true := by first | exact Jvm.Free.JP.mathPlain rfl (by decide +kernel) | exact plainFor_of_name (by first | (simp [plainName, overriddenIn]; done) | decide +kernel) | decide +kernel
theorem own_pd95987610 : parseMethodDescriptor "([C)V" = some ⟨[(.array .char)], none⟩ := by decide +kernel
theorem own_pd53415732 : parseMethodDescriptor "(Ljava/lang/String;)Lcom/example/weaverbird/weaverbird/sql/SqlText;" = some ⟨[(.object "java/lang/String")], some (.object "com/example/weaverbird/weaverbird/sql/SqlText")⟩ := by decide +kernel
theorem own_pd65628341 : parseMethodDescriptor "(Lcom/example/weaverbird/weaverbird/sql/SqlText;Ljava/lang/String;IZ)V" = some ⟨[(.object "com/example/weaverbird/weaverbird/sql/SqlText"), (.object "java/lang/String"), .int, .boolean], none⟩ := by decide +kernel
theorem own_pd48405890 : parseMethodDescriptor "()Z" = some ⟨[], some .boolean⟩ := by decide +kernel
theorem own_pd64650713 : parseMethodDescriptor "(Ljava/util/List;)Lcom/example/weaverbird/weaverbird/sql/ItemColumn;" = some ⟨[(.object "java/util/List")], some (.object "com/example/weaverbird/weaverbird/sql/ItemColumn")⟩ := by decide +kernel
theorem own_pd17227499 : parseMethodDescriptor "(IIIZ)V" = some ⟨[.int, .int, .int, .boolean], none⟩ := by decide +kernel
theorem own_pd93735326 : parseMethodDescriptor "()I" = some ⟨[], some .int⟩ := by decide +kernel
theorem own_ef_rm_law (m : MethodId) (x0 : Int32) (x1 : Int32) (x2 : Int32) (x3 : Int32) : entryFrame m #[(.int x0), (.int x1), (.int x2), (.int x3)] maxLocals = mkF m 0 #[.val (.int x0), .val (.int x1), .val (.int x2), .val (.int x3), .unset, .unset, .unset, .unset, .unset, .unset, .unset] [] := by first | (simp [entryFrame, mkF, argsToLocals, Value.category, maxLocals]; done) | rfl
def Q_rm_law (Z : State) (p0 : Int32) (p1 : Int32) (p2 : Int32) (p3 : Int32) (G1 : Int32) (nm : Nat) (dc : Nat) (h0 : Heap) (n0 : Nat) (v : Option Value) (h : Heap) (L : List Loc) : Prop := v = some (.int 1) ∧ Fr n0 L
set_option maxRecDepth 65536 in
set_option maxHeartbeats 40000000 in
theorem rm_law (l : Launch) (Z : State) (a0 : Array Value) (hw : ∀ d ∈ tables_1, d.before a0 Z = true) (p0 : Int32) (p1 : Int32) (p2 : Int32) (p3 : Int32) (G1 : Int32) (nm : Nat) (dc : Nat) (h0 : Heap) (n0 : Nat) (Z0 : n0 ≤ h0.size) (pf0 : Sta Z Z.heap "java/lang/String" "COMPACT_STRINGS" "Z" (.int G1)) (pf1 : Sta Z Z.heap "com/example/weaverbird/weaverbird/sql/SqlText" "NO_MARKERS" "[I" (.ref nm)) (pf2 : Sta Z Z.heap "java/util/ArrayList" "DEFAULTCAPACITY_EMPTY_ELEMENTDATA" "[Ljava/lang/Object;" (.ref dc)) (pf3 : Old Z n0 h0) (hG1 : ¬ G1 = 0) :
    own_CT l Z x code maxLocals ret room_1 #[(.int p0), (.int p1), (.int p2), (.int p3)] h0 (Q_rm_law Z p0 p1 p2 p3 G1 nm dc h0 n0) := by
  refine own_of own_pn41222640 (Ls := #[.val (.int p0), .val (.int p1), .val (.int p2), .val (.int p3), .unset, .unset, .unset, .unset, .unset, .unset, .unset]) (fun m => own_ef_rm_law m p0 p1 p2 p3) ?_
  intro p e s m below meth c T0 X0 hx hby hml hown hnm hret hZ e0 hlk
  have hown : s.vm.findClass "com/example/weaverbird/weaverbird/sql/ItemColumnIsEmptyPinLaw" = some m.cls := hown
  have N0 := Fr.nil n0
  refine own_via (T0.setTop (mkF m 1 #[.val (.int p0), .val (.int p1), .val (.int p2), .val (.int p3), .unset, .unset, .unset, .unset, .unset, .unset, .unset] [(.int p3)])) (fun t k => XS.iloadN X0.here hx rfl (hb hby at_0) rfl k) ?_
  refine own_via (T0.setTop (mkF m 2 #[.val (.int p0), .val (.int p1), .val (.int p2), .val (.int p3), .unset, .unset, .unset, .unset, .unset, .unset, .unset] [(.int (1 : Int32)), (.int p3)])) (fun t k => XS.iconst X0.here hx rfl (hb hby at_1) k) ?_
  refine own_via (T0.setTop (mkF m 3 #[.val (.int p0), .val (.int p1), .val (.int p2), .val (.int p3), .unset, .unset, .unset, .unset, .unset, .unset, .unset] [(.int (p3 &&& (1 : Int32)))])) (fun t k => XS.iand X0.here hx rfl (hb hby at_2) rfl k) ?_
  have J13 : ∀ (ag : Int32), own_Ends p.tables e below (own_Post s (Q_rm_law Z p0 p1 p2 p3 G1 nm dc h0 n0) room_1.cells room_1.slots) (T0.setTop (mkF m 13 #[.val (.int p0), .val (.int p1), .val (.int p2), .val (.int p3), .val (.int ag), .unset, .unset, .unset, .unset, .unset, .unset] [])) := by
    intro ag
    refine own_via (T0.setTop (mkF m 14 #[.val (.int p0), .val (.int p1), .val (.int p2), .val (.int p3), .val (.int ag), .unset, .unset, .unset, .unset, .unset, .unset] [(.int p3)])) (fun t k => XS.iloadN X0.here hx rfl (hb hby at_13) rfl k) ?_
    refine own_via (T0.setTop (mkF m 15 #[.val (.int p0), .val (.int p1), .val (.int p2), .val (.int p3), .val (.int ag), .unset, .unset, .unset, .unset, .unset, .unset] [(.int (1 : Int32)), (.int p3)])) (fun t k => XS.iconst X0.here hx rfl (hb hby at_14) k) ?_
    refine own_via (T0.setTop (mkF m 16 #[.val (.int p0), .val (.int p1), .val (.int p2), .val (.int p3), .val (.int ag), .unset, .unset, .unset, .unset, .unset, .unset] [(.int (((p3).toUInt32 >>> ((1 : Int32) &&& 31).toUInt32).toInt32))])) (fun t k => XS.iushr X0.here hx rfl (hb hby at_15) rfl k) ?_
    refine own_via (T0.setTop (mkF m 17 #[.val (.int p0), .val (.int p1), .val (.int p2), .val (.int p3), .val (.int ag), .unset, .unset, .unset, .unset, .unset, .unset] [(.int (3 : Int32)), (.int (((p3).toUInt32 >>> ((1 : Int32) &&& 31).toUInt32).toInt32))])) (fun t k => XS.iconst X0.here hx rfl (hb hby at_16) k) ?_
    refine own_via (T0.setTop (mkF m 18 #[.val (.int p0), .val (.int p1), .val (.int p2), .val (.int p3), .val (.int ag), .unset, .unset, .unset, .unset, .unset, .unset] [(.int ((((p3).toUInt32 >>> ((1 : Int32) &&& 31).toUInt32).toInt32) &&& (3 : Int32)))])) (fun t k => XS.iand X0.here hx rfl (hb hby at_17) rfl k) ?_
    refine own_via (T0.setTop (mkF m 20 #[.val (.int p0), .val (.int p1), .val (.int p2), .val (.int p3), .val (.int ag), .val (.int ((((p3).toUInt32 >>> ((1 : Int32) &&& 31).toUInt32).toInt32) &&& (3 : Int32))), .unset, .unset, .unset, .unset, .unset] [])) (fun t k => XS.istore X0.here hx rfl (hb hby at_18) rfl (l' := #[.val (.int p0), .val (.int p1), .val (.int p2), .val (.int p3), .val (.int ag), .val (.int ((((p3).toUInt32 >>> ((1 : Int32) &&& 31).toUInt32).toInt32) &&& (3 : Int32))), .unset, .unset, .unset, .unset, .unset]) rfl k) ?_
    refine own_via (T0.setTop (mkF m 21 #[.val (.int p0), .val (.int p1), .val (.int p2), .val (.int p3), .val (.int ag), .val (.int ((((p3).toUInt32 >>> ((1 : Int32) &&& 31).toUInt32).toInt32) &&& (3 : Int32))), .unset, .unset, .unset, .unset, .unset] [(.int p3)])) (fun t k => XS.iloadN X0.here hx rfl (hb hby at_20) rfl k) ?_
    refine own_via (T0.setTop (mkF m 22 #[.val (.int p0), .val (.int p1), .val (.int p2), .val (.int p3), .val (.int ag), .val (.int ((((p3).toUInt32 >>> ((1 : Int32) &&& 31).toUInt32).toInt32) &&& (3 : Int32))), .unset, .unset, .unset, .unset, .unset] [(.int (3 : Int32)), (.int p3)])) (fun t k => XS.iconst X0.here hx rfl (hb hby at_21) k) ?_
    refine own_via (T0.setTop (mkF m 23 #[.val (.int p0), .val (.int p1), .val (.int p2), .val (.int p3), .val (.int ag), .val (.int ((((p3).toUInt32 >>> ((1 : Int32) &&& 31).toUInt32).toInt32) &&& (3 : Int32))), .unset, .unset, .unset, .unset, .unset] [(.int (((p3).toUInt32 >>> ((3 : Int32) &&& 31).toUInt32).toInt32))])) (fun t k => XS.iushr X0.here hx rfl (hb hby at_22) rfl k) ?_
    refine own_via (T0.setTop (mkF m 24 #[.val (.int p0), .val (.int p1), .val (.int p2), .val (.int p3), .val (.int ag), .val (.int ((((p3).toUInt32 >>> ((1 : Int32) &&& 31).toUInt32).toInt32) &&& (3 : Int32))), .unset, .unset, .unset, .unset, .unset] [(.int (3 : Int32)), (.int (((p3).toUInt32 >>> ((3 : Int32) &&& 31).toUInt32).toInt32))])) (fun t k => XS.iconst X0.here hx rfl (hb hby at_23) k) ?_
    refine own_via (T0.setTop (mkF m 25 #[.val (.int p0), .val (.int p1), .val (.int p2), .val (.int p3), .val (.int ag), .val (.int ((((p3).toUInt32 >>> ((1 : Int32) &&& 31).toUInt32).toInt32) &&& (3 : Int32))), .unset, .unset, .unset, .unset, .unset] [(.int ((((p3).toUInt32 >>> ((3 : Int32) &&& 31).toUInt32).toInt32) &&& (3 : Int32)))])) (fun t k => XS.iand X0.here hx rfl (hb hby at_24) rfl k) ?_
    refine own_via (T0.setTop (mkF m 27 #[.val (.int p0), .val (.int p1), .val (.int p2), .val (.int p3), .val (.int ag), .val (.int ((((p3).toUInt32 >>> ((1 : Int32) &&& 31).toUInt32).toInt32) &&& (3 : Int32))), .val (.int ((((p3).toUInt32 >>> ((3 : Int32) &&& 31).toUInt32).toInt32) &&& (3 : Int32))), .unset, .unset, .unset, .unset] [])) (fun t k => XS.istore X0.here hx rfl (hb hby at_25) rfl (l' := #[.val (.int p0), .val (.int p1), .val (.int p2), .val (.int p3), .val (.int ag), .val (.int ((((p3).toUInt32 >>> ((1 : Int32) &&& 31).toUInt32).toInt32) &&& (3 : Int32))), .val (.int ((((p3).toUInt32 >>> ((3 : Int32) &&& 31).toUInt32).toInt32) &&& (3 : Int32))), .unset, .unset, .unset, .unset]) rfl k) ?_
    have J69 : ∀ (to : Int32), own_Ends p.tables e below (own_Post s (Q_rm_law Z p0 p1 p2 p3 G1 nm dc h0 n0) room_1.cells room_1.slots) (T0.setTop (mkF m 69 #[.val (.int p0), .val (.int p1), .val (.int p2), .val (.int p3), .val (.int ag), .val (.int ((((p3).toUInt32 >>> ((1 : Int32) &&& 31).toUInt32).toInt32) &&& (3 : Int32))), .val (.int ((((p3).toUInt32 >>> ((3 : Int32) &&& 31).toUInt32).toInt32) &&& (3 : Int32))), .val (.int to), .unset, .unset, .unset] [])) := by
      intro to
      refine own_via (T0.setTop (mkF m 71 #[.val (.int p0), .val (.int p1), .val (.int p2), .val (.int p3), .val (.int ag), .val (.int ((((p3).toUInt32 >>> ((1 : Int32) &&& 31).toUInt32).toInt32) &&& (3 : Int32))), .val (.int ((((p3).toUInt32 >>> ((3 : Int32) &&& 31).toUInt32).toInt32) &&& (3 : Int32))), .val (.int to), .unset, .unset, .unset] [(.int ((((p3).toUInt32 >>> ((1 : Int32) &&& 31).toUInt32).toInt32) &&& (3 : Int32)))])) (fun t k => XS.iload X0.here hx rfl (hb hby at_69) rfl k) ?_
      refine own_via (T0.setTop (mkF m 72 #[.val (.int p0), .val (.int p1), .val (.int p2), .val (.int p3), .val (.int ag), .val (.int ((((p3).toUInt32 >>> ((1 : Int32) &&& 31).toUInt32).toInt32) &&& (3 : Int32))), .val (.int ((((p3).toUInt32 >>> ((3 : Int32) &&& 31).toUInt32).toInt32) &&& (3 : Int32))), .val (.int to), .unset, .unset, .unset] [(.int (1 : Int32)), (.int ((((p3).toUInt32 >>> ((1 : Int32) &&& 31).toUInt32).toInt32) &&& (3 : Int32)))])) (fun t k => XS.iconst X0.here hx rfl (hb hby at_71) k) ?_
      by_cases hk1 : ((((p3).toUInt32 >>> ((1 : Int32) &&& 31).toUInt32).toInt32) &&& (3 : Int32)) = (1 : Int32)
      · refine own_via (T0.setTop (mkF m 75 #[.val (.int p0), .val (.int p1), .val (.int p2), .val (.int p3), .val (.int ag), .val (.int ((((p3).toUInt32 >>> ((1 : Int32) &&& 31).toUInt32).toInt32) &&& (3 : Int32))), .val (.int ((((p3).toUInt32 >>> ((3 : Int32) &&& 31).toUInt32).toInt32) &&& (3 : Int32))), .val (.int to), .unset, .unset, .unset] [])) (fun t k => XS.icmpNo X0.here hx rfl (hb hby at_72) rfl (XT.ii_ne_f hk1) k) ?_
        refine own_via (T0.setTop (mkF m 76 #[.val (.int p0), .val (.int p1), .val (.int p2), .val (.int p3), .val (.int ag), .val (.int ((((p3).toUInt32 >>> ((1 : Int32) &&& 31).toUInt32).toInt32) &&& (3 : Int32))), .val (.int ((((p3).toUInt32 >>> ((3 : Int32) &&& 31).toUInt32).toInt32) &&& (3 : Int32))), .val (.int to), .unset, .unset, .unset] [(.int (2 : Int32))])) (fun t k => XS.iconst X0.here hx rfl (hb hby at_75) k) ?_
        obtain ⟨T1, h1, k1, X1, e1, E1, A1, st1⟩ := newP X0 hx hZ (hw _ (List.mem_of_getElem? (i := 41) rfl)) e0 (g := (mkF m 76 #[.val (.int p0), .val (.int p1), .val (.int p2), .val (.int p3), .val (.int ag), .val (.int ((((p3).toUInt32 >>> ((1 : Int32) &&& 31).toUInt32).toInt32) &&& (3 : Int32))), .val (.int ((((p3).toUInt32 >>> ((3 : Int32) &&& 31).toUInt32).toInt32) &&& (3 : Int32))), .val (.int to), .unset, .unset, .unset] [(.int (2 : Int32))])) rfl (hb hby at_76) rfl (by decide) (cap := 2) (by decide) (by decide) (by decide) (by decide)
        obtain ⟨o1, g1⟩ : ∃ z, z = h0.size := ⟨_, rfl⟩
        rw [← g1] at A1 st1
        have sz_h1 : h0.size ≤ h1.size := E1.1
        have V1 : Arv Z h1 o1 k1 .char (2 : Int32) [] (.int (0 : Int32)) := Arv.new A1 (by decide)
        have lt_o1 : @LT.lt Nat _ o1 h1.size := V1.lt
        refine own_via (T1.setTop (mkF m 78 #[.val (.int p0), .val (.int p1), .val (.int p2), .val (.int p3), .val (.int ag), .val (.int ((((p3).toUInt32 >>> ((1 : Int32) &&& 31).toUInt32).toInt32) &&& (3 : Int32))), .val (.int ((((p3).toUInt32 >>> ((3 : Int32) &&& 31).toUInt32).toInt32) &&& (3 : Int32))), .val (.int to), .unset, .unset, .unset] [(.ref o1)])) (st1) ?_
        refine own_via (T1.setTop (mkF m 80 #[.val (.int p0), .val (.int p1), .val (.int p2), .val (.int p3), .val (.int ag), .val (.int ((((p3).toUInt32 >>> ((1 : Int32) &&& 31).toUInt32).toInt32) &&& (3 : Int32))), .val (.int ((((p3).toUInt32 >>> ((3 : Int32) &&& 31).toUInt32).toInt32) &&& (3 : Int32))), .val (.int to), .val (.ref o1), .unset, .unset] [])) (fun t k => XS.astore X1.here hx rfl (hb hby at_78) rfl rfl (l' := #[.val (.int p0), .val (.int p1), .val (.int p2), .val (.int p3), .val (.int ag), .val (.int ((((p3).toUInt32 >>> ((1 : Int32) &&& 31).toUInt32).toInt32) &&& (3 : Int32))), .val (.int ((((p3).toUInt32 >>> ((3 : Int32) &&& 31).toUInt32).toInt32) &&& (3 : Int32))), .val (.int to), .val (.ref o1), .unset, .unset]) rfl k) ?_
        refine own_via (T1.setTop (mkF m 82 #[.val (.int p0), .val (.int p1), .val (.int p2), .val (.int p3), .val (.int ag), .val (.int ((((p3).toUInt32 >>> ((1 : Int32) &&& 31).toUInt32).toInt32) &&& (3 : Int32))), .val (.int ((((p3).toUInt32 >>> ((3 : Int32) &&& 31).toUInt32).toInt32) &&& (3 : Int32))), .val (.int to), .val (.ref o1), .unset, .unset] [(.ref o1)])) (fun t k => XS.aload X1.here hx rfl (hb hby at_80) rfl rfl k) ?_
        refine own_via (T1.setTop (mkF m 83 #[.val (.int p0), .val (.int p1), .val (.int p2), .val (.int p3), .val (.int ag), .val (.int ((((p3).toUInt32 >>> ((1 : Int32) &&& 31).toUInt32).toInt32) &&& (3 : Int32))), .val (.int ((((p3).toUInt32 >>> ((3 : Int32) &&& 31).toUInt32).toInt32) &&& (3 : Int32))), .val (.int to), .val (.ref o1), .unset, .unset] [(.int (0 : Int32)), (.ref o1)])) (fun t k => XS.iconst X1.here hx rfl (hb hby at_82) k) ?_
        refine own_via (T1.setTop (mkF m 84 #[.val (.int p0), .val (.int p1), .val (.int p2), .val (.int p3), .val (.int ag), .val (.int ((((p3).toUInt32 >>> ((1 : Int32) &&& 31).toUInt32).toInt32) &&& (3 : Int32))), .val (.int ((((p3).toUInt32 >>> ((3 : Int32) &&& 31).toUInt32).toInt32) &&& (3 : Int32))), .val (.int to), .val (.ref o1), .unset, .unset] [(.int p2), (.int (0 : Int32)), (.ref o1)])) (fun t k => XS.iloadN X1.here hx rfl (hb hby at_83) rfl k) ?_
        refine own_via (T1.setTop (mkF m 87 #[.val (.int p0), .val (.int p1), .val (.int p2), .val (.int p3), .val (.int ag), .val (.int ((((p3).toUInt32 >>> ((1 : Int32) &&& 31).toUInt32).toInt32) &&& (3 : Int32))), .val (.int ((((p3).toUInt32 >>> ((3 : Int32) &&& 31).toUInt32).toInt32) &&& (3 : Int32))), .val (.int to), .val (.ref o1), .unset, .unset] [(.int (255 : Int32)), (.int p2), (.int (0 : Int32)), (.ref o1)])) (fun t k => XS.sipush X1.here hx rfl (hb hby at_84) k) ?_
        refine own_via (T1.setTop (mkF m 88 #[.val (.int p0), .val (.int p1), .val (.int p2), .val (.int p3), .val (.int ag), .val (.int ((((p3).toUInt32 >>> ((1 : Int32) &&& 31).toUInt32).toInt32) &&& (3 : Int32))), .val (.int ((((p3).toUInt32 >>> ((3 : Int32) &&& 31).toUInt32).toInt32) &&& (3 : Int32))), .val (.int to), .val (.ref o1), .unset, .unset] [(.int (p2 &&& (255 : Int32))), (.int (0 : Int32)), (.ref o1)])) (fun t k => XS.iand X1.here hx rfl (hb hby at_87) rfl k) ?_
        refine own_via (T1.setTop (mkF m 89 #[.val (.int p0), .val (.int p1), .val (.int p2), .val (.int p3), .val (.int ag), .val (.int ((((p3).toUInt32 >>> ((1 : Int32) &&& 31).toUInt32).toInt32) &&& (3 : Int32))), .val (.int ((((p3).toUInt32 >>> ((3 : Int32) &&& 31).toUInt32).toInt32) &&& (3 : Int32))), .val (.int to), .val (.ref o1), .unset, .unset] [(.int (((p2 &&& (255 : Int32))).toUInt32.toUInt16.toUInt32.toInt32)), (.int (0 : Int32)), (.ref o1)])) (fun t k => XS.i2c X1.here hx rfl (hb hby at_88) rfl k) ?_
        generalize h_y1 : (((p2 &&& (255 : Int32))).toUInt32.toUInt16.toUInt32.toInt32) = y1
        have V2 : Arv Z h1 o1 k1 .char (2 : Int32) [(.int (0 : Int32))] (.int (0 : Int32)) := V1.pad (pad_rep [] (.int (0 : Int32)) 1)
        obtain ⟨c3, A3, q3, S3, M3, H3, U3⟩ := id V2
        obtain ⟨T4, h4, X4, e4, W4, st4⟩ := stC X1 hx hZ e1 A3 (j := (0 : Int32)) (inb_of S3 ⟨(by decide), (by decide)⟩) (g := (mkF m 89 #[.val (.int p0), .val (.int p1), .val (.int p2), .val (.int p3), .val (.int ag), .val (.int ((((p3).toUInt32 >>> ((1 : Int32) &&& 31).toUInt32).toInt32) &&& (3 : Int32))), .val (.int ((((p3).toUInt32 >>> ((3 : Int32) &&& 31).toUInt32).toInt32) &&& (3 : Int32))), .val (.int to), .val (.ref o1), .unset, .unset] [(.int y1), (.int (0 : Int32)), (.ref o1)])) rfl rfl (hb hby at_89)
        have N4 := Fr.snoc X4 N0 (show @LE.le Nat _ _ _ by omega)
        have sz_h4 : h4.size = h1.size := Wr.size W4
        have f5 : Arv Z h4 o1 k1 .char (2 : Int32) [(.int (nar .char y1))] (.int (0 : Int32)) := Arv.set A3 q3 S3 M3 H3 U3 (fits_nar_char _) W4 0 rfl (Nat.le_of_ble_eq_true rfl)
        refine own_via (T4.setTop (mkF m 90 #[.val (.int p0), .val (.int p1), .val (.int p2), .val (.int p3), .val (.int ag), .val (.int ((((p3).toUInt32 >>> ((1 : Int32) &&& 31).toUInt32).toInt32) &&& (3 : Int32))), .val (.int ((((p3).toUInt32 >>> ((3 : Int32) &&& 31).toUInt32).toInt32) &&& (3 : Int32))), .val (.int to), .val (.ref o1), .unset, .unset] [])) (st4) ?_
        refine own_via (T4.setTop (mkF m 92 #[.val (.int p0), .val (.int p1), .val (.int p2), .val (.int p3), .val (.int ag), .val (.int ((((p3).toUInt32 >>> ((1 : Int32) &&& 31).toUInt32).toInt32) &&& (3 : Int32))), .val (.int ((((p3).toUInt32 >>> ((3 : Int32) &&& 31).toUInt32).toInt32) &&& (3 : Int32))), .val (.int to), .val (.ref o1), .unset, .unset] [(.ref o1)])) (fun t k => XS.aload X4.here hx rfl (hb hby at_90) rfl rfl k) ?_
        refine own_via (T4.setTop (mkF m 93 #[.val (.int p0), .val (.int p1), .val (.int p2), .val (.int p3), .val (.int ag), .val (.int ((((p3).toUInt32 >>> ((1 : Int32) &&& 31).toUInt32).toInt32) &&& (3 : Int32))), .val (.int ((((p3).toUInt32 >>> ((3 : Int32) &&& 31).toUInt32).toInt32) &&& (3 : Int32))), .val (.int to), .val (.ref o1), .unset, .unset] [(.int (1 : Int32)), (.ref o1)])) (fun t k => XS.iconst X4.here hx rfl (hb hby at_92) k) ?_
        refine own_via (T4.setTop (mkF m 94 #[.val (.int p0), .val (.int p1), .val (.int p2), .val (.int p3), .val (.int ag), .val (.int ((((p3).toUInt32 >>> ((1 : Int32) &&& 31).toUInt32).toInt32) &&& (3 : Int32))), .val (.int ((((p3).toUInt32 >>> ((3 : Int32) &&& 31).toUInt32).toInt32) &&& (3 : Int32))), .val (.int to), .val (.ref o1), .unset, .unset] [(.int p2), (.int (1 : Int32)), (.ref o1)])) (fun t k => XS.iloadN X4.here hx rfl (hb hby at_93) rfl k) ?_
        refine own_via (T4.setTop (mkF m 96 #[.val (.int p0), .val (.int p1), .val (.int p2), .val (.int p3), .val (.int ag), .val (.int ((((p3).toUInt32 >>> ((1 : Int32) &&& 31).toUInt32).toInt32) &&& (3 : Int32))), .val (.int ((((p3).toUInt32 >>> ((3 : Int32) &&& 31).toUInt32).toInt32) &&& (3 : Int32))), .val (.int to), .val (.ref o1), .unset, .unset] [(.int (8 : Int32)), (.int p2), (.int (1 : Int32)), (.ref o1)])) (fun t k => XS.bipush X4.here hx rfl (hb hby at_94) k) ?_
        refine own_via (T4.setTop (mkF m 97 #[.val (.int p0), .val (.int p1), .val (.int p2), .val (.int p3), .val (.int ag), .val (.int ((((p3).toUInt32 >>> ((1 : Int32) &&& 31).toUInt32).toInt32) &&& (3 : Int32))), .val (.int ((((p3).toUInt32 >>> ((3 : Int32) &&& 31).toUInt32).toInt32) &&& (3 : Int32))), .val (.int to), .val (.ref o1), .unset, .unset] [(.int (((p2).toUInt32 >>> ((8 : Int32) &&& 31).toUInt32).toInt32)), (.int (1 : Int32)), (.ref o1)])) (fun t k => XS.iushr X4.here hx rfl (hb hby at_96) rfl k) ?_
        refine own_via (T4.setTop (mkF m 100 #[.val (.int p0), .val (.int p1), .val (.int p2), .val (.int p3), .val (.int ag), .val (.int ((((p3).toUInt32 >>> ((1 : Int32) &&& 31).toUInt32).toInt32) &&& (3 : Int32))), .val (.int ((((p3).toUInt32 >>> ((3 : Int32) &&& 31).toUInt32).toInt32) &&& (3 : Int32))), .val (.int to), .val (.ref o1), .unset, .unset] [(.int (255 : Int32)), (.int (((p2).toUInt32 >>> ((8 : Int32) &&& 31).toUInt32).toInt32)), (.int (1 : Int32)), (.ref o1)])) (fun t k => XS.sipush X4.here hx rfl (hb hby at_97) k) ?_
        refine own_via (T4.setTop (mkF m 101 #[.val (.int p0), .val (.int p1), .val (.int p2), .val (.int p3), .val (.int ag), .val (.int ((((p3).toUInt32 >>> ((1 : Int32) &&& 31).toUInt32).toInt32) &&& (3 : Int32))), .val (.int ((((p3).toUInt32 >>> ((3 : Int32) &&& 31).toUInt32).toInt32) &&& (3 : Int32))), .val (.int to), .val (.ref o1), .unset, .unset] [(.int ((((p2).toUInt32 >>> ((8 : Int32) &&& 31).toUInt32).toInt32) &&& (255 : Int32))), (.int (1 : Int32)), (.ref o1)])) (fun t k => XS.iand X4.here hx rfl (hb hby at_100) rfl k) ?_
        refine own_via (T4.setTop (mkF m 102 #[.val (.int p0), .val (.int p1), .val (.int p2), .val (.int p3), .val (.int ag), .val (.int ((((p3).toUInt32 >>> ((1 : Int32) &&& 31).toUInt32).toInt32) &&& (3 : Int32))), .val (.int ((((p3).toUInt32 >>> ((3 : Int32) &&& 31).toUInt32).toInt32) &&& (3 : Int32))), .val (.int to), .val (.ref o1), .unset, .unset] [(.int ((((((p2).toUInt32 >>> ((8 : Int32) &&& 31).toUInt32).toInt32) &&& (255 : Int32))).toUInt32.toUInt16.toUInt32.toInt32)), (.int (1 : Int32)), (.ref o1)])) (fun t k => XS.i2c X4.here hx rfl (hb hby at_101) rfl k) ?_
        generalize h_y2 : ((((((p2).toUInt32 >>> ((8 : Int32) &&& 31).toUInt32).toInt32) &&& (255 : Int32))).toUInt32.toUInt16.toUInt32.toInt32) = y2
        have V6 : Arv Z h4 o1 k1 .char (2 : Int32) [(.int (nar .char y1)), (.int (0 : Int32))] (.int (0 : Int32)) := f5.pad (pad_rep [(.int (nar .char y1))] (.int (0 : Int32)) 1)
        obtain ⟨c7, A7, q7, S7, M7, H7, U7⟩ := id V6
        obtain ⟨T8, h8, X8, e8, W8, st8⟩ := stC X4 hx hZ e4 A7 (j := (1 : Int32)) (inb_of S7 ⟨(by decide), (by decide)⟩) (g := (mkF m 102 #[.val (.int p0), .val (.int p1), .val (.int p2), .val (.int p3), .val (.int ag), .val (.int ((((p3).toUInt32 >>> ((1 : Int32) &&& 31).toUInt32).toInt32) &&& (3 : Int32))), .val (.int ((((p3).toUInt32 >>> ((3 : Int32) &&& 31).toUInt32).toInt32) &&& (3 : Int32))), .val (.int to), .val (.ref o1), .unset, .unset] [(.int y2), (.int (1 : Int32)), (.ref o1)])) rfl rfl (hb hby at_102)
        have N8 := Fr.snoc X8 N4 (show @LE.le Nat _ _ _ by omega)
        have sz_h8 : h8.size = h4.size := Wr.size W8
        have f9 : Arv Z h8 o1 k1 .char (2 : Int32) [(.int (nar .char y1)), (.int (nar .char y2))] (.int (0 : Int32)) := Arv.set A7 q7 S7 M7 H7 U7 (fits_nar_char _) W8 1 rfl (Nat.le_of_ble_eq_true rfl)
        refine own_via (T8.setTop (mkF m 103 #[.val (.int p0), .val (.int p1), .val (.int p2), .val (.int p3), .val (.int ag), .val (.int ((((p3).toUInt32 >>> ((1 : Int32) &&& 31).toUInt32).toInt32) &&& (3 : Int32))), .val (.int ((((p3).toUInt32 >>> ((3 : Int32) &&& 31).toUInt32).toInt32) &&& (3 : Int32))), .val (.int to), .val (.ref o1), .unset, .unset] [])) (st8) ?_
        obtain ⟨T10, h10, X10, e10, E10, A10, D10, U10, st10⟩ := newO X8 hx hZ hown (hw _ (List.mem_of_getElem? (i := 42) rfl)) (hw _ (List.mem_of_getElem? (i := 43) rfl)) (hw _ (List.mem_of_getElem? (i := 44) rfl)) e8 (g := (mkF m 103 #[.val (.int p0), .val (.int p1), .val (.int p2), .val (.int p3), .val (.int ag), .val (.int ((((p3).toUInt32 >>> ((1 : Int32) &&& 31).toUInt32).toInt32) &&& (3 : Int32))), .val (.int ((((p3).toUInt32 >>> ((3 : Int32) &&& 31).toUInt32).toInt32) &&& (3 : Int32))), .val (.int to), .val (.ref o1), .unset, .unset] [])) rfl (hb hby at_103) (by decide) (by decide)
        obtain ⟨o10, g10⟩ : ∃ z, z = h8.size := ⟨_, rfl⟩
        rw [← g10] at A10 D10 U10 st10
        have sz_h10 : h8.size ≤ h10.size := E10.1
        have lt_o10 : @LT.lt Nat _ o10 h10.size := A10.lt
        refine own_via (T10.setTop (mkF m 106 #[.val (.int p0), .val (.int p1), .val (.int p2), .val (.int p3), .val (.int ag), .val (.int ((((p3).toUInt32 >>> ((1 : Int32) &&& 31).toUInt32).toInt32) &&& (3 : Int32))), .val (.int ((((p3).toUInt32 >>> ((3 : Int32) &&& 31).toUInt32).toInt32) &&& (3 : Int32))), .val (.int to), .val (.ref o1), .unset, .unset] [(.ref o10)])) (st10) ?_
        refine own_via (T10.setTop (mkF m 107 #[.val (.int p0), .val (.int p1), .val (.int p2), .val (.int p3), .val (.int ag), .val (.int ((((p3).toUInt32 >>> ((1 : Int32) &&& 31).toUInt32).toInt32) &&& (3 : Int32))), .val (.int ((((p3).toUInt32 >>> ((3 : Int32) &&& 31).toUInt32).toInt32) &&& (3 : Int32))), .val (.int to), .val (.ref o1), .unset, .unset] [(.ref o10), (.ref o10)])) (fun t k => XS.dup X10.here hx rfl (hb hby at_106) rfl rfl k) ?_
        refine own_via (T10.setTop (mkF m 109 #[.val (.int p0), .val (.int p1), .val (.int p2), .val (.int p3), .val (.int ag), .val (.int ((((p3).toUInt32 >>> ((1 : Int32) &&& 31).toUInt32).toInt32) &&& (3 : Int32))), .val (.int ((((p3).toUInt32 >>> ((3 : Int32) &&& 31).toUInt32).toInt32) &&& (3 : Int32))), .val (.int to), .val (.ref o1), .unset, .unset] [(.ref o1), (.ref o10), (.ref o10)])) (fun t k => XS.aload X10.here hx rfl (hb hby at_107) rfl rfl k) ?_
        have hp11 : ∀ c ∈ ([(nar .char y1), (nar .char y2)] : List Int32), ¬ c < 0 ∧ ¬ (255 : Int32) < c := by
          intro c hc
          simp only [List.mem_cons, List.not_mem_nil, or_false] at hc
          rcases hc with rfl | rfl
          · rw [← h_y1]; exact own_and255 _
          · rw [← h_y2]; exact own_and255 _
        have f12 : Fld Z h10 o10 "java/lang/String" "value" "[B" .null := (D10 (Or.inr (hw _ (List.mem_of_getElem? (i := 68) rfl))) (ty := (.array .byte)) (by decide))
        have f13 : Fld Z h10 o10 "java/lang/String" "coder" "B" (.int (0 : Int32)) := (D10 (Or.inr (hw _ (List.mem_of_getElem? (i := 66) rfl))) (ty := .byte) (by decide))
        have f14 : Arv Z h10 o1 k1 .char (2 : Int32) [(.int (nar .char y1)), (.int (nar .char y2))] (.int (0 : Int32)) := (f9.ext E10)
        have f15 : Old Z n0 h10 := ((((pf3.ext E1).wr W4 (show @LE.le Nat _ _ _ by omega)).wr W8 (show @LE.le Nat _ _ _ by omega)).ext E10)
        obtain ⟨v16, T16, h16, L16, X16, e16, q16, st16⟩ := own_cI X10 hx hZ hown (hw _ (List.mem_of_getElem? (i := 45) rfl)) (hw _ (List.mem_of_getElem? (i := 46) rfl)) (hw _ (List.mem_of_getElem? (i := 47) rfl)) rfl (by decide) (W := 1) (StrChars.Road.backV hZ (own_hws hw) (kI := 4) (hw _ (List.mem_of_getElem? (i := 43) rfl)) (cs := ([(nar .char y1), (nar .char y2)] : List Int32)) (bs := (([(nar .char y1), (nar .char y2)] : List Int32)).map (fun c => c.toInt8.toInt32)) (n := 2) (n0 := n0) (by omega) (by omega) A10 f12 f13 f14 (pf0.ext f15.2) hG1 rfl rfl (by decide) (by decide) hp11 rfl (by decide) (by decide)) e10 (a := o10) (Ls := #[.val (.int p0), .val (.int p1), .val (.int p2), .val (.int p3), .val (.int ag), .val (.int ((((p3).toUInt32 >>> ((1 : Int32) &&& 31).toUInt32).toInt32) &&& (3 : Int32))), .val (.int ((((p3).toUInt32 >>> ((3 : Int32) &&& 31).toUInt32).toInt32) &&& (3 : Int32))), .val (.int to), .val (.ref o1), .unset, .unset]) (by rw [hml]; rfl) (argsL := [(.ref o1)]) (rest := [(.ref o10)]) rfl (lenOf own_pd95987610 rfl) rfl (Nat.le_of_eq rfl) (hb hby at_109) (by decide) (by decide)
        obtain ⟨rfl, Nq16, Kq16, fE16, fC16, t16, kb16, u16, w16, n16, fV16, fA16⟩ := q16
        have N16 := Fr.app N8 Nq16
        have sz_h16 : h10.size ≤ h16.size := Kq16.1
        have lt_t16 := fA16.lt
        refine own_via (T16.setTop (mkF m 112 #[.val (.int p0), .val (.int p1), .val (.int p2), .val (.int p3), .val (.int ag), .val (.int ((((p3).toUInt32 >>> ((1 : Int32) &&& 31).toUInt32).toInt32) &&& (3 : Int32))), .val (.int ((((p3).toUInt32 >>> ((3 : Int32) &&& 31).toUInt32).toInt32) &&& (3 : Int32))), .val (.int to), .val (.ref o1), .unset, .unset] [(.ref o10)])) (st16) ?_
        have f17 : Old Z n0 h16 := (f15.keep Kq16 (allS (show @LE.le Nat _ _ _ by omega) all0))
        obtain ⟨v18, T18, h18, L18, X18, e18, q18, st18⟩ := own_cS X16 hx hZ hown (hw _ (List.mem_of_getElem? (i := 69) rfl)) (hw _ (List.mem_of_getElem? (i := 70) rfl)) (hw _ (List.mem_of_getElem? (i := 71) rfl)) (hw _ (List.mem_of_getElem? (i := 72) rfl)) (by decide) (W := 0) (own_bk (rm_sqlOf l Z a0 hw o10 nm h16 n0 (by omega) pf1 f17) hZ (hw _ (List.mem_of_getElem? (i := 72) rfl)) (hw _ (List.mem_of_getElem? (i := 71) rfl)) (by decide) (by decide)) e16 (Ls := #[.val (.int p0), .val (.int p1), .val (.int p2), .val (.int p3), .val (.int ag), .val (.int ((((p3).toUInt32 >>> ((1 : Int32) &&& 31).toUInt32).toInt32) &&& (3 : Int32))), .val (.int ((((p3).toUInt32 >>> ((3 : Int32) &&& 31).toUInt32).toInt32) &&& (3 : Int32))), .val (.int to), .val (.ref o1), .unset, .unset]) (by rw [hml]; rfl) (argsL := [(.ref o10)]) (rest := []) rfl (lenOf own_pd53415732 rfl) rfl (Nat.le_of_eq rfl) (hb hby at_112) (by decide) (by decide)
        obtain ⟨b_18, rfl, Nq18, Kq18, f19⟩ := q18
        have N18 := Fr.app N16 Nq18
        have sz_h18 : h16.size ≤ h18.size := Kq18.1
        have lt_b_18 : @LT.lt Nat _ b_18 h18.size := f19.lt
        refine own_via (T18.setTop (mkF m 115 #[.val (.int p0), .val (.int p1), .val (.int p2), .val (.int p3), .val (.int ag), .val (.int ((((p3).toUInt32 >>> ((1 : Int32) &&& 31).toUInt32).toInt32) &&& (3 : Int32))), .val (.int ((((p3).toUInt32 >>> ((3 : Int32) &&& 31).toUInt32).toInt32) &&& (3 : Int32))), .val (.int to), .val (.ref o1), .unset, .unset] [(.ref b_18)])) (st18) ?_
        refine own_via (T18.setTop (mkF m 117 #[.val (.int p0), .val (.int p1), .val (.int p2), .val (.int p3), .val (.int ag), .val (.int ((((p3).toUInt32 >>> ((1 : Int32) &&& 31).toUInt32).toInt32) &&& (3 : Int32))), .val (.int ((((p3).toUInt32 >>> ((3 : Int32) &&& 31).toUInt32).toInt32) &&& (3 : Int32))), .val (.int to), .val (.ref o1), .val (.ref b_18), .unset] [])) (fun t k => XS.astore X18.here hx rfl (hb hby at_115) rfl rfl (l' := #[.val (.int p0), .val (.int p1), .val (.int p2), .val (.int p3), .val (.int ag), .val (.int ((((p3).toUInt32 >>> ((1 : Int32) &&& 31).toUInt32).toInt32) &&& (3 : Int32))), .val (.int ((((p3).toUInt32 >>> ((3 : Int32) &&& 31).toUInt32).toInt32) &&& (3 : Int32))), .val (.int to), .val (.ref o1), .val (.ref b_18), .unset]) rfl k) ?_
        obtain ⟨T20, h20, X20, e20, E20, A20, D20, U20, st20⟩ := newO X18 hx hZ hown (hw _ (List.mem_of_getElem? (i := 0) rfl)) (hw _ (List.mem_of_getElem? (i := 1) rfl)) (hw _ (List.mem_of_getElem? (i := 2) rfl)) e18 (g := (mkF m 117 #[.val (.int p0), .val (.int p1), .val (.int p2), .val (.int p3), .val (.int ag), .val (.int ((((p3).toUInt32 >>> ((1 : Int32) &&& 31).toUInt32).toInt32) &&& (3 : Int32))), .val (.int ((((p3).toUInt32 >>> ((3 : Int32) &&& 31).toUInt32).toInt32) &&& (3 : Int32))), .val (.int to), .val (.ref o1), .val (.ref b_18), .unset] [])) rfl (hb hby at_117) (by decide) (by decide)
        obtain ⟨o20, g20⟩ : ∃ z, z = h18.size := ⟨_, rfl⟩
        rw [← g20] at A20 D20 U20 st20
        have sz_h20 : h18.size ≤ h20.size := E20.1
        have lt_o20 : @LT.lt Nat _ o20 h20.size := A20.lt
        refine own_via (T20.setTop (mkF m 120 #[.val (.int p0), .val (.int p1), .val (.int p2), .val (.int p3), .val (.int ag), .val (.int ((((p3).toUInt32 >>> ((1 : Int32) &&& 31).toUInt32).toInt32) &&& (3 : Int32))), .val (.int ((((p3).toUInt32 >>> ((3 : Int32) &&& 31).toUInt32).toInt32) &&& (3 : Int32))), .val (.int to), .val (.ref o1), .val (.ref b_18), .unset] [(.ref o20)])) (st20) ?_
        refine own_via (T20.setTop (mkF m 121 #[.val (.int p0), .val (.int p1), .val (.int p2), .val (.int p3), .val (.int ag), .val (.int ((((p3).toUInt32 >>> ((1 : Int32) &&& 31).toUInt32).toInt32) &&& (3 : Int32))), .val (.int ((((p3).toUInt32 >>> ((3 : Int32) &&& 31).toUInt32).toInt32) &&& (3 : Int32))), .val (.int to), .val (.ref o1), .val (.ref b_18), .unset] [(.ref o20), (.ref o20)])) (fun t k => XS.dup X20.here hx rfl (hb hby at_120) rfl rfl k) ?_
        refine own_via (T20.setTop (mkF m 123 #[.val (.int p0), .val (.int p1), .val (.int p2), .val (.int p3), .val (.int ag), .val (.int ((((p3).toUInt32 >>> ((1 : Int32) &&& 31).toUInt32).toInt32) &&& (3 : Int32))), .val (.int ((((p3).toUInt32 >>> ((3 : Int32) &&& 31).toUInt32).toInt32) &&& (3 : Int32))), .val (.int to), .val (.ref o1), .val (.ref b_18), .unset] [(.ref b_18), (.ref o20), (.ref o20)])) (fun t k => XS.aload X20.here hx rfl (hb hby at_121) rfl rfl k) ?_
        refine own_via (T20.setTop (mkF m 124 #[.val (.int p0), .val (.int p1), .val (.int p2), .val (.int p3), .val (.int ag), .val (.int ((((p3).toUInt32 >>> ((1 : Int32) &&& 31).toUInt32).toInt32) &&& (3 : Int32))), .val (.int ((((p3).toUInt32 >>> ((3 : Int32) &&& 31).toUInt32).toInt32) &&& (3 : Int32))), .val (.int to), .val (.ref o1), .val (.ref b_18), .unset] [.null, (.ref b_18), (.ref o20), (.ref o20)])) (fun t k => XS.aconstNull X20.here hx rfl (hb hby at_123) k) ?_
        refine own_via (T20.setTop (mkF m 125 #[.val (.int p0), .val (.int p1), .val (.int p2), .val (.int p3), .val (.int ag), .val (.int ((((p3).toUInt32 >>> ((1 : Int32) &&& 31).toUInt32).toInt32) &&& (3 : Int32))), .val (.int ((((p3).toUInt32 >>> ((3 : Int32) &&& 31).toUInt32).toInt32) &&& (3 : Int32))), .val (.int to), .val (.ref o1), .val (.ref b_18), .unset] [(.int p2), .null, (.ref b_18), (.ref o20), (.ref o20)])) (fun t k => XS.iloadN X20.here hx rfl (hb hby at_124) rfl k) ?_
        refine own_via (T20.setTop (mkF m 127 #[.val (.int p0), .val (.int p1), .val (.int p2), .val (.int p3), .val (.int ag), .val (.int ((((p3).toUInt32 >>> ((1 : Int32) &&& 31).toUInt32).toInt32) &&& (3 : Int32))), .val (.int ((((p3).toUInt32 >>> ((3 : Int32) &&& 31).toUInt32).toInt32) &&& (3 : Int32))), .val (.int to), .val (.ref o1), .val (.ref b_18), .unset] [(.int ag), (.int p2), .null, (.ref b_18), (.ref o20), (.ref o20)])) (fun t k => XS.iload X20.here hx rfl (hb hby at_125) rfl k) ?_
        have f21 : Fld Z h20 o20 "com/example/weaverbird/weaverbird/sql/ItemColumn" "from" "I" (.int (0 : Int32)) := (D20 (Or.inr (hw _ (List.mem_of_getElem? (i := 13) rfl))) (ty := .int) (by decide))
        have f22 : Fld Z h20 o20 "com/example/weaverbird/weaverbird/sql/ItemColumn" "to" "I" (.int (0 : Int32)) := (D20 (Or.inr (hw _ (List.mem_of_getElem? (i := 15) rfl))) (ty := .int) (by decide))
        have f23 : Fld Z h20 o20 "com/example/weaverbird/weaverbird/sql/ItemColumn" "written" "Lcom/example/weaverbird/weaverbird/sql/SqlText;" .null := (D20 (Or.inr (hw _ (List.mem_of_getElem? (i := 17) rfl))) (ty := (.object "com/example/weaverbird/weaverbird/sql/SqlText")) (by decide))
        have f24 : Fld Z h20 o20 "com/example/weaverbird/weaverbird/sql/ItemColumn" "label" "Ljava/lang/String;" .null := (D20 (Or.inr (hw _ (List.mem_of_getElem? (i := 19) rfl))) (ty := (.object "java/lang/String")) (by decide))
        have f25 : Fld Z h20 o20 "com/example/weaverbird/weaverbird/sql/ItemColumn" "parameter" "I" (.int (0 : Int32)) := (D20 (Or.inr (hw _ (List.mem_of_getElem? (i := 21) rfl))) (ty := .int) (by decide))
        have f26 : Fld Z h20 o20 "com/example/weaverbird/weaverbird/sql/ItemColumn" "aggregateArgument" "Z" (.int (0 : Int32)) := (D20 (Or.inr (hw _ (List.mem_of_getElem? (i := 23) rfl))) (ty := .boolean) (by decide))
        have f27 : Fld Z h20 o20 "com/example/weaverbird/weaverbird/sql/ItemColumn" "rankKeys" "Ljava/util/List;" .null := (D20 (Or.inr (hw _ (List.mem_of_getElem? (i := 25) rfl))) (ty := (.object "java/util/List")) (by decide))
        obtain ⟨v28, T28, h28, L28, X28, e28, q28, st28⟩ := own_cI X20 hx hZ hown (hw _ (List.mem_of_getElem? (i := 85) rfl)) (hw _ (List.mem_of_getElem? (i := 86) rfl)) (hw _ (List.mem_of_getElem? (i := 87) rfl)) rfl (by decide) (W := 1) (own_bk (rm_initW l Z a0 hw o20 b_18 p2 ag (.int (0 : Int32)) (.int (0 : Int32)) .null .null (.int (0 : Int32)) (.int (0 : Int32)) .null h20 n0 (by omega) A20 f21 f22 f23 f24 f25 f26 f27 (show @LE.le Nat _ _ _ by omega)) hZ (hw _ (List.mem_of_getElem? (i := 87) rfl)) (hw _ (List.mem_of_getElem? (i := 2) rfl)) (by decide) (by decide)) e20 (a := o20) (Ls := #[.val (.int p0), .val (.int p1), .val (.int p2), .val (.int p3), .val (.int ag), .val (.int ((((p3).toUInt32 >>> ((1 : Int32) &&& 31).toUInt32).toInt32) &&& (3 : Int32))), .val (.int ((((p3).toUInt32 >>> ((3 : Int32) &&& 31).toUInt32).toInt32) &&& (3 : Int32))), .val (.int to), .val (.ref o1), .val (.ref b_18), .unset]) (by rw [hml]; rfl) (argsL := [(.ref b_18), .null, (.int p2), (.int ag)]) (rest := [(.ref o20)]) rfl (lenOf own_pd65628341 rfl) rfl (Nat.le_of_eq rfl) (hb hby at_127) (by decide) (by decide)
        obtain ⟨rfl, Nq28, Kq28, f29, f30, f31, f32, f33⟩ := q28
        have N28 := Fr.app N18 Nq28
        have sz_h28 : h20.size ≤ h28.size := Kq28.1
        refine own_via (T28.setTop (mkF m 130 #[.val (.int p0), .val (.int p1), .val (.int p2), .val (.int p3), .val (.int ag), .val (.int ((((p3).toUInt32 >>> ((1 : Int32) &&& 31).toUInt32).toInt32) &&& (3 : Int32))), .val (.int ((((p3).toUInt32 >>> ((3 : Int32) &&& 31).toUInt32).toInt32) &&& (3 : Int32))), .val (.int to), .val (.ref o1), .val (.ref b_18), .unset] [(.ref o20)])) (st28) ?_
        refine own_via (T28.setTop (mkF m 132 #[.val (.int p0), .val (.int p1), .val (.int p2), .val (.int p3), .val (.int ag), .val (.int ((((p3).toUInt32 >>> ((1 : Int32) &&& 31).toUInt32).toInt32) &&& (3 : Int32))), .val (.int ((((p3).toUInt32 >>> ((3 : Int32) &&& 31).toUInt32).toInt32) &&& (3 : Int32))), .val (.int to), .val (.ref o1), .val (.ref b_18), .val (.ref o20)] [])) (fun t k => XS.astore X28.here hx rfl (hb hby at_130) rfl rfl (l' := #[.val (.int p0), .val (.int p1), .val (.int p2), .val (.int p3), .val (.int ag), .val (.int ((((p3).toUInt32 >>> ((1 : Int32) &&& 31).toUInt32).toInt32) &&& (3 : Int32))), .val (.int ((((p3).toUInt32 >>> ((3 : Int32) &&& 31).toUInt32).toInt32) &&& (3 : Int32))), .val (.int to), .val (.ref o1), .val (.ref b_18), .val (.ref o20)]) rfl k) ?_
        refine own_via (T28.setTop (mkF m 134 #[.val (.int p0), .val (.int p1), .val (.int p2), .val (.int p3), .val (.int ag), .val (.int ((((p3).toUInt32 >>> ((1 : Int32) &&& 31).toUInt32).toInt32) &&& (3 : Int32))), .val (.int ((((p3).toUInt32 >>> ((3 : Int32) &&& 31).toUInt32).toInt32) &&& (3 : Int32))), .val (.int to), .val (.ref o1), .val (.ref b_18), .val (.ref o20)] [(.ref o20)])) (fun t k => XS.aload X28.here hx rfl (hb hby at_132) rfl rfl k) ?_
        obtain ⟨v34, T34, h34, L34, X34, e34, q34, st34⟩ := own_cV X28 hx hZ (y := (⟨"com/example/weaverbird/weaverbird/sql/ItemColumn", "isEmpty", "()Z"⟩ : MethodName)) (z := (⟨"com/example/weaverbird/weaverbird/sql/ItemColumn", "isEmpty", "()Z"⟩ : MethodName)) hown (hw _ (List.mem_of_getElem? (i := 26) rfl)) (hw _ (List.mem_of_getElem? (i := 27) rfl)) (notFace_of_selects (args := #[]) (mvT hZ (hw _ (List.mem_of_getElem? (i := 29) rfl)))) (hw _ (List.mem_of_getElem? (i := 29) rfl)) (hw _ (List.mem_of_getElem? (i := 28) rfl)) (by decide) (W := 0) (own_bk (rm_emptyW l Z a0 hw o20 b_18 h28 n0 (by omega) f33 f32) hZ (hw _ (List.mem_of_getElem? (i := 30) rfl)) (hw _ (List.mem_of_getElem? (i := 2) rfl)) (by decide) (by decide)) e28 f29 (Ls := #[.val (.int p0), .val (.int p1), .val (.int p2), .val (.int p3), .val (.int ag), .val (.int ((((p3).toUInt32 >>> ((1 : Int32) &&& 31).toUInt32).toInt32) &&& (3 : Int32))), .val (.int ((((p3).toUInt32 >>> ((3 : Int32) &&& 31).toUInt32).toInt32) &&& (3 : Int32))), .val (.int to), .val (.ref o1), .val (.ref b_18), .val (.ref o20)]) (by rw [hml]; rfl) (argsL := []) (rest := []) rfl (lenOf own_pd48405890 rfl) rfl (Nat.le_of_eq rfl) (hb hby at_134) (by decide) (by decide)
        obtain ⟨rfl, Nq34, eq34⟩ := q34
        have N34 := Fr.app N28 Nq34
        replace e34 := e34.trans eq34
        refine own_via (T34.setTop (mkF m 137 #[.val (.int p0), .val (.int p1), .val (.int p2), .val (.int p3), .val (.int ag), .val (.int ((((p3).toUInt32 >>> ((1 : Int32) &&& 31).toUInt32).toInt32) &&& (3 : Int32))), .val (.int ((((p3).toUInt32 >>> ((3 : Int32) &&& 31).toUInt32).toInt32) &&& (3 : Int32))), .val (.int to), .val (.ref o1), .val (.ref b_18), .val (.ref o20)] [(.int (0 : Int32))])) (st34) ?_
        refine own_via (T34.setTop (mkF m 140 #[.val (.int p0), .val (.int p1), .val (.int p2), .val (.int p3), .val (.int ag), .val (.int ((((p3).toUInt32 >>> ((1 : Int32) &&& 31).toUInt32).toInt32) &&& (3 : Int32))), .val (.int ((((p3).toUInt32 >>> ((3 : Int32) &&& 31).toUInt32).toInt32) &&& (3 : Int32))), .val (.int to), .val (.ref o1), .val (.ref b_18), .val (.ref o20)] [])) (fun t k => XS.ifNo X34.here hx rfl (hb hby at_137) rfl (by decide) k) ?_
        refine own_via (T34.setTop (mkF m 141 #[.val (.int p0), .val (.int p1), .val (.int p2), .val (.int p3), .val (.int ag), .val (.int ((((p3).toUInt32 >>> ((1 : Int32) &&& 31).toUInt32).toInt32) &&& (3 : Int32))), .val (.int ((((p3).toUInt32 >>> ((3 : Int32) &&& 31).toUInt32).toInt32) &&& (3 : Int32))), .val (.int to), .val (.ref o1), .val (.ref b_18), .val (.ref o20)] [(.int (1 : Int32))])) (fun t k => XS.iconst X34.here hx rfl (hb hby at_140) k) ?_
        refine own_via (T34.setTop (mkF m 145 #[.val (.int p0), .val (.int p1), .val (.int p2), .val (.int p3), .val (.int ag), .val (.int ((((p3).toUInt32 >>> ((1 : Int32) &&& 31).toUInt32).toInt32) &&& (3 : Int32))), .val (.int ((((p3).toUInt32 >>> ((3 : Int32) &&& 31).toUInt32).toInt32) &&& (3 : Int32))), .val (.int to), .val (.ref o1), .val (.ref b_18), .val (.ref o20)] [(.int (1 : Int32))])) (fun t k => XS.goto X34.here hx rfl (pc0 := 141) (pc' := 145) rfl (hb hby at_141) (by decide) (by decide) k) ?_
        exact own_retN X34 hx hlk (t := .boolean) hret (by simp) (hb hby at_145) e34 (⟨rfl, N34⟩) (by decide) (by decide)
      · refine own_via (T0.setTop (mkF m 146 #[.val (.int p0), .val (.int p1), .val (.int p2), .val (.int p3), .val (.int ag), .val (.int ((((p3).toUInt32 >>> ((1 : Int32) &&& 31).toUInt32).toInt32) &&& (3 : Int32))), .val (.int ((((p3).toUInt32 >>> ((3 : Int32) &&& 31).toUInt32).toInt32) &&& (3 : Int32))), .val (.int to), .unset, .unset, .unset] [])) (fun t k => XS.icmpYes X0.here hx rfl (pc0 := 72) (pc' := 146) rfl (hb hby at_72) rfl (XT.ii_ne_t hk1) (by decide) (by decide) k) ?_
        refine own_via (T0.setTop (mkF m 148 #[.val (.int p0), .val (.int p1), .val (.int p2), .val (.int p3), .val (.int ag), .val (.int ((((p3).toUInt32 >>> ((1 : Int32) &&& 31).toUInt32).toInt32) &&& (3 : Int32))), .val (.int ((((p3).toUInt32 >>> ((3 : Int32) &&& 31).toUInt32).toInt32) &&& (3 : Int32))), .val (.int to), .unset, .unset, .unset] [(.int ((((p3).toUInt32 >>> ((1 : Int32) &&& 31).toUInt32).toInt32) &&& (3 : Int32)))])) (fun t k => XS.iload X0.here hx rfl (hb hby at_146) rfl k) ?_
        refine own_via (T0.setTop (mkF m 149 #[.val (.int p0), .val (.int p1), .val (.int p2), .val (.int p3), .val (.int ag), .val (.int ((((p3).toUInt32 >>> ((1 : Int32) &&& 31).toUInt32).toInt32) &&& (3 : Int32))), .val (.int ((((p3).toUInt32 >>> ((3 : Int32) &&& 31).toUInt32).toInt32) &&& (3 : Int32))), .val (.int to), .unset, .unset, .unset] [(.int (2 : Int32)), (.int ((((p3).toUInt32 >>> ((1 : Int32) &&& 31).toUInt32).toInt32) &&& (3 : Int32)))])) (fun t k => XS.iconst X0.here hx rfl (hb hby at_148) k) ?_
        by_cases hk2 : ((((p3).toUInt32 >>> ((1 : Int32) &&& 31).toUInt32).toInt32) &&& (3 : Int32)) = (2 : Int32)
        · refine own_via (T0.setTop (mkF m 152 #[.val (.int p0), .val (.int p1), .val (.int p2), .val (.int p3), .val (.int ag), .val (.int ((((p3).toUInt32 >>> ((1 : Int32) &&& 31).toUInt32).toInt32) &&& (3 : Int32))), .val (.int ((((p3).toUInt32 >>> ((3 : Int32) &&& 31).toUInt32).toInt32) &&& (3 : Int32))), .val (.int to), .unset, .unset, .unset] [])) (fun t k => XS.icmpNo X0.here hx rfl (hb hby at_149) rfl (XT.ii_ne_f hk2) k) ?_
          obtain ⟨T35, h35, X35, e35, E35, A35, D35, U35, st35⟩ := newO X0 hx hZ hown (hw _ (List.mem_of_getElem? (i := 88) rfl)) (hw _ (List.mem_of_getElem? (i := 89) rfl)) (hw _ (List.mem_of_getElem? (i := 90) rfl)) e0 (g := (mkF m 152 #[.val (.int p0), .val (.int p1), .val (.int p2), .val (.int p3), .val (.int ag), .val (.int ((((p3).toUInt32 >>> ((1 : Int32) &&& 31).toUInt32).toInt32) &&& (3 : Int32))), .val (.int ((((p3).toUInt32 >>> ((3 : Int32) &&& 31).toUInt32).toInt32) &&& (3 : Int32))), .val (.int to), .unset, .unset, .unset] [])) rfl (hb hby at_152) (by decide) (by decide)
          obtain ⟨o35, g35⟩ : ∃ z, z = h0.size := ⟨_, rfl⟩
          rw [← g35] at A35 D35 U35 st35
          have sz_h35 : h0.size ≤ h35.size := E35.1
          have lt_o35 : @LT.lt Nat _ o35 h35.size := A35.lt
          refine own_via (T35.setTop (mkF m 155 #[.val (.int p0), .val (.int p1), .val (.int p2), .val (.int p3), .val (.int ag), .val (.int ((((p3).toUInt32 >>> ((1 : Int32) &&& 31).toUInt32).toInt32) &&& (3 : Int32))), .val (.int ((((p3).toUInt32 >>> ((3 : Int32) &&& 31).toUInt32).toInt32) &&& (3 : Int32))), .val (.int to), .unset, .unset, .unset] [(.ref o35)])) (st35) ?_
          refine own_via (T35.setTop (mkF m 156 #[.val (.int p0), .val (.int p1), .val (.int p2), .val (.int p3), .val (.int ag), .val (.int ((((p3).toUInt32 >>> ((1 : Int32) &&& 31).toUInt32).toInt32) &&& (3 : Int32))), .val (.int ((((p3).toUInt32 >>> ((3 : Int32) &&& 31).toUInt32).toInt32) &&& (3 : Int32))), .val (.int to), .unset, .unset, .unset] [(.ref o35), (.ref o35)])) (fun t k => XS.dup X35.here hx rfl (hb hby at_155) rfl rfl k) ?_
          have f36 : Fld Z h35 o35 "java/util/AbstractList" "modCount" "I" (.int (0 : Int32)) := (D35 (Or.inl (hw _ (List.mem_of_getElem? (i := 108) rfl))) (ty := .int) (by decide))
          have f37 : Fld Z h35 o35 "java/util/ArrayList" "elementData" "[Ljava/lang/Object;" .null := (D35 (Or.inl (hw _ (List.mem_of_getElem? (i := 111) rfl))) (ty := (.array (.object "java/lang/Object"))) (by decide))
          have f38 : Old Z n0 h35 := (pf3.ext E35)
          obtain ⟨v39, T39, h39, L39, X39, e39, q39, st39⟩ := own_cI X35 hx hZ hown (hw _ (List.mem_of_getElem? (i := 91) rfl)) (hw _ (List.mem_of_getElem? (i := 92) rfl)) (hw _ (List.mem_of_getElem? (i := 93) rfl)) rfl (by decide) (W := 1) (own_bk (rm_al l Z a0 hw o35 (.int (0 : Int32)) .null dc h35 n0 (by omega) A35 f36 f37 pf2 f38 (show @LE.le Nat _ _ _ by omega)) hZ (hw _ (List.mem_of_getElem? (i := 93) rfl)) (hw _ (List.mem_of_getElem? (i := 90) rfl)) (by decide) (by decide)) e35 (a := o35) (Ls := #[.val (.int p0), .val (.int p1), .val (.int p2), .val (.int p3), .val (.int ag), .val (.int ((((p3).toUInt32 >>> ((1 : Int32) &&& 31).toUInt32).toInt32) &&& (3 : Int32))), .val (.int ((((p3).toUInt32 >>> ((3 : Int32) &&& 31).toUInt32).toInt32) &&& (3 : Int32))), .val (.int to), .unset, .unset, .unset]) (by rw [hml]; rfl) (argsL := []) (rest := [(.ref o35)]) rfl (lenOf own_pd25328131 rfl) rfl (Nat.le_of_eq rfl) (hb hby at_156) (by decide) (by decide)
          obtain ⟨rfl, Nq39, Kq39⟩ := q39
          have N39 := Fr.app N0 Nq39
          have sz_h39 : h35.size ≤ h39.size := Kq39.1
          refine own_via (T39.setTop (mkF m 159 #[.val (.int p0), .val (.int p1), .val (.int p2), .val (.int p3), .val (.int ag), .val (.int ((((p3).toUInt32 >>> ((1 : Int32) &&& 31).toUInt32).toInt32) &&& (3 : Int32))), .val (.int ((((p3).toUInt32 >>> ((3 : Int32) &&& 31).toUInt32).toInt32) &&& (3 : Int32))), .val (.int to), .unset, .unset, .unset] [(.ref o35)])) (st39) ?_
          refine own_via (T39.setTop (mkF m 161 #[.val (.int p0), .val (.int p1), .val (.int p2), .val (.int p3), .val (.int ag), .val (.int ((((p3).toUInt32 >>> ((1 : Int32) &&& 31).toUInt32).toInt32) &&& (3 : Int32))), .val (.int ((((p3).toUInt32 >>> ((3 : Int32) &&& 31).toUInt32).toInt32) &&& (3 : Int32))), .val (.int to), .val (.ref o35), .unset, .unset] [])) (fun t k => XS.astore X39.here hx rfl (hb hby at_159) rfl rfl (l' := #[.val (.int p0), .val (.int p1), .val (.int p2), .val (.int p3), .val (.int ag), .val (.int ((((p3).toUInt32 >>> ((1 : Int32) &&& 31).toUInt32).toInt32) &&& (3 : Int32))), .val (.int ((((p3).toUInt32 >>> ((3 : Int32) &&& 31).toUInt32).toInt32) &&& (3 : Int32))), .val (.int to), .val (.ref o35), .unset, .unset]) rfl k) ?_
          refine own_via (T39.setTop (mkF m 163 #[.val (.int p0), .val (.int p1), .val (.int p2), .val (.int p3), .val (.int ag), .val (.int ((((p3).toUInt32 >>> ((1 : Int32) &&& 31).toUInt32).toInt32) &&& (3 : Int32))), .val (.int ((((p3).toUInt32 >>> ((3 : Int32) &&& 31).toUInt32).toInt32) &&& (3 : Int32))), .val (.int to), .val (.ref o35), .unset, .unset] [(.ref o35)])) (fun t k => XS.aload X39.here hx rfl (hb hby at_161) rfl rfl k) ?_
          obtain ⟨v40, T40, h40, L40, X40, e40, q40, st40⟩ := own_cS X39 hx hZ hown (hw _ (List.mem_of_getElem? (i := 112) rfl)) (hw _ (List.mem_of_getElem? (i := 113) rfl)) (hw _ (List.mem_of_getElem? (i := 2) rfl)) (hw _ (List.mem_of_getElem? (i := 114) rfl)) (by decide) (W := 0) (own_bk (rm_rank l Z a0 hw o35 h39 n0 (by omega)) hZ (hw _ (List.mem_of_getElem? (i := 114) rfl)) (hw _ (List.mem_of_getElem? (i := 2) rfl)) (by decide) (by decide)) e39 (Ls := #[.val (.int p0), .val (.int p1), .val (.int p2), .val (.int p3), .val (.int ag), .val (.int ((((p3).toUInt32 >>> ((1 : Int32) &&& 31).toUInt32).toInt32) &&& (3 : Int32))), .val (.int ((((p3).toUInt32 >>> ((3 : Int32) &&& 31).toUInt32).toInt32) &&& (3 : Int32))), .val (.int to), .val (.ref o35), .unset, .unset]) (by rw [hml]; rfl) (argsL := [(.ref o35)]) (rest := []) rfl (lenOf own_pd64650713 rfl) rfl (Nat.le_of_eq rfl) (hb hby at_163) (by decide) (by decide)
          obtain ⟨b_40, rfl, Nq40, Kq40, f41, f42, f43⟩ := q40
          have N40 := Fr.app N39 Nq40
          have sz_h40 : h39.size ≤ h40.size := Kq40.1
          have lt_b_40 : @LT.lt Nat _ b_40 h40.size := f41.lt
          refine own_via (T40.setTop (mkF m 166 #[.val (.int p0), .val (.int p1), .val (.int p2), .val (.int p3), .val (.int ag), .val (.int ((((p3).toUInt32 >>> ((1 : Int32) &&& 31).toUInt32).toInt32) &&& (3 : Int32))), .val (.int ((((p3).toUInt32 >>> ((3 : Int32) &&& 31).toUInt32).toInt32) &&& (3 : Int32))), .val (.int to), .val (.ref o35), .unset, .unset] [(.ref b_40)])) (st40) ?_
          refine own_via (T40.setTop (mkF m 168 #[.val (.int p0), .val (.int p1), .val (.int p2), .val (.int p3), .val (.int ag), .val (.int ((((p3).toUInt32 >>> ((1 : Int32) &&& 31).toUInt32).toInt32) &&& (3 : Int32))), .val (.int ((((p3).toUInt32 >>> ((3 : Int32) &&& 31).toUInt32).toInt32) &&& (3 : Int32))), .val (.int to), .val (.ref o35), .val (.ref b_40), .unset] [])) (fun t k => XS.astore X40.here hx rfl (hb hby at_166) rfl rfl (l' := #[.val (.int p0), .val (.int p1), .val (.int p2), .val (.int p3), .val (.int ag), .val (.int ((((p3).toUInt32 >>> ((1 : Int32) &&& 31).toUInt32).toInt32) &&& (3 : Int32))), .val (.int ((((p3).toUInt32 >>> ((3 : Int32) &&& 31).toUInt32).toInt32) &&& (3 : Int32))), .val (.int to), .val (.ref o35), .val (.ref b_40), .unset]) rfl k) ?_
          refine own_via (T40.setTop (mkF m 170 #[.val (.int p0), .val (.int p1), .val (.int p2), .val (.int p3), .val (.int ag), .val (.int ((((p3).toUInt32 >>> ((1 : Int32) &&& 31).toUInt32).toInt32) &&& (3 : Int32))), .val (.int ((((p3).toUInt32 >>> ((3 : Int32) &&& 31).toUInt32).toInt32) &&& (3 : Int32))), .val (.int to), .val (.ref o35), .val (.ref b_40), .unset] [(.ref b_40)])) (fun t k => XS.aload X40.here hx rfl (hb hby at_168) rfl rfl k) ?_
          obtain ⟨v44, T44, h44, L44, X44, e44, q44, st44⟩ := own_cV X40 hx hZ (y := (⟨"com/example/weaverbird/weaverbird/sql/ItemColumn", "isEmpty", "()Z"⟩ : MethodName)) (z := (⟨"com/example/weaverbird/weaverbird/sql/ItemColumn", "isEmpty", "()Z"⟩ : MethodName)) hown (hw _ (List.mem_of_getElem? (i := 26) rfl)) (hw _ (List.mem_of_getElem? (i := 27) rfl)) (notFace_of_selects (args := #[]) (mvT hZ (hw _ (List.mem_of_getElem? (i := 29) rfl)))) (hw _ (List.mem_of_getElem? (i := 29) rfl)) (hw _ (List.mem_of_getElem? (i := 28) rfl)) (by decide) (W := 0) (own_bk (rm_emptyR l Z a0 hw b_40 o35 h40 n0 (by omega) f42) hZ (hw _ (List.mem_of_getElem? (i := 30) rfl)) (hw _ (List.mem_of_getElem? (i := 2) rfl)) (by decide) (by decide)) e40 f41 (Ls := #[.val (.int p0), .val (.int p1), .val (.int p2), .val (.int p3), .val (.int ag), .val (.int ((((p3).toUInt32 >>> ((1 : Int32) &&& 31).toUInt32).toInt32) &&& (3 : Int32))), .val (.int ((((p3).toUInt32 >>> ((3 : Int32) &&& 31).toUInt32).toInt32) &&& (3 : Int32))), .val (.int to), .val (.ref o35), .val (.ref b_40), .unset]) (by rw [hml]; rfl) (argsL := []) (rest := []) rfl (lenOf own_pd48405890 rfl) rfl (Nat.le_of_eq rfl) (hb hby at_170) (by decide) (by decide)
          obtain ⟨rfl, Nq44, eq44⟩ := q44
          have N44 := Fr.app N40 Nq44
          replace e44 := e44.trans eq44
          refine own_via (T44.setTop (mkF m 173 #[.val (.int p0), .val (.int p1), .val (.int p2), .val (.int p3), .val (.int ag), .val (.int ((((p3).toUInt32 >>> ((1 : Int32) &&& 31).toUInt32).toInt32) &&& (3 : Int32))), .val (.int ((((p3).toUInt32 >>> ((3 : Int32) &&& 31).toUInt32).toInt32) &&& (3 : Int32))), .val (.int to), .val (.ref o35), .val (.ref b_40), .unset] [(.int (0 : Int32))])) (st44) ?_
          refine own_via (T44.setTop (mkF m 176 #[.val (.int p0), .val (.int p1), .val (.int p2), .val (.int p3), .val (.int ag), .val (.int ((((p3).toUInt32 >>> ((1 : Int32) &&& 31).toUInt32).toInt32) &&& (3 : Int32))), .val (.int ((((p3).toUInt32 >>> ((3 : Int32) &&& 31).toUInt32).toInt32) &&& (3 : Int32))), .val (.int to), .val (.ref o35), .val (.ref b_40), .unset] [])) (fun t k => XS.ifNo X44.here hx rfl (hb hby at_173) rfl (by decide) k) ?_
          refine own_via (T44.setTop (mkF m 177 #[.val (.int p0), .val (.int p1), .val (.int p2), .val (.int p3), .val (.int ag), .val (.int ((((p3).toUInt32 >>> ((1 : Int32) &&& 31).toUInt32).toInt32) &&& (3 : Int32))), .val (.int ((((p3).toUInt32 >>> ((3 : Int32) &&& 31).toUInt32).toInt32) &&& (3 : Int32))), .val (.int to), .val (.ref o35), .val (.ref b_40), .unset] [(.int (1 : Int32))])) (fun t k => XS.iconst X44.here hx rfl (hb hby at_176) k) ?_
          refine own_via (T44.setTop (mkF m 181 #[.val (.int p0), .val (.int p1), .val (.int p2), .val (.int p3), .val (.int ag), .val (.int ((((p3).toUInt32 >>> ((1 : Int32) &&& 31).toUInt32).toInt32) &&& (3 : Int32))), .val (.int ((((p3).toUInt32 >>> ((3 : Int32) &&& 31).toUInt32).toInt32) &&& (3 : Int32))), .val (.int to), .val (.ref o35), .val (.ref b_40), .unset] [(.int (1 : Int32))])) (fun t k => XS.goto X44.here hx rfl (pc0 := 177) (pc' := 181) rfl (hb hby at_177) (by decide) (by decide) k) ?_
          exact own_retN X44 hx hlk (t := .boolean) hret (by simp) (hb hby at_181) e44 (⟨rfl, N44⟩) (by decide) (by decide)
        · refine own_via (T0.setTop (mkF m 182 #[.val (.int p0), .val (.int p1), .val (.int p2), .val (.int p3), .val (.int ag), .val (.int ((((p3).toUInt32 >>> ((1 : Int32) &&& 31).toUInt32).toInt32) &&& (3 : Int32))), .val (.int ((((p3).toUInt32 >>> ((3 : Int32) &&& 31).toUInt32).toInt32) &&& (3 : Int32))), .val (.int to), .unset, .unset, .unset] [])) (fun t k => XS.icmpYes X0.here hx rfl (pc0 := 149) (pc' := 182) rfl (hb hby at_149) rfl (XT.ii_ne_t hk2) (by decide) (by decide) k) ?_
          obtain ⟨T45, h45, X45, e45, E45, A45, D45, U45, st45⟩ := newO X0 hx hZ hown (hw _ (List.mem_of_getElem? (i := 0) rfl)) (hw _ (List.mem_of_getElem? (i := 1) rfl)) (hw _ (List.mem_of_getElem? (i := 2) rfl)) e0 (g := (mkF m 182 #[.val (.int p0), .val (.int p1), .val (.int p2), .val (.int p3), .val (.int ag), .val (.int ((((p3).toUInt32 >>> ((1 : Int32) &&& 31).toUInt32).toInt32) &&& (3 : Int32))), .val (.int ((((p3).toUInt32 >>> ((3 : Int32) &&& 31).toUInt32).toInt32) &&& (3 : Int32))), .val (.int to), .unset, .unset, .unset] [])) rfl (hb hby at_182) (by decide) (by decide)
          obtain ⟨o45, g45⟩ : ∃ z, z = h0.size := ⟨_, rfl⟩
          rw [← g45] at A45 D45 U45 st45
          have sz_h45 : h0.size ≤ h45.size := E45.1
          have lt_o45 : @LT.lt Nat _ o45 h45.size := A45.lt
          refine own_via (T45.setTop (mkF m 185 #[.val (.int p0), .val (.int p1), .val (.int p2), .val (.int p3), .val (.int ag), .val (.int ((((p3).toUInt32 >>> ((1 : Int32) &&& 31).toUInt32).toInt32) &&& (3 : Int32))), .val (.int ((((p3).toUInt32 >>> ((3 : Int32) &&& 31).toUInt32).toInt32) &&& (3 : Int32))), .val (.int to), .unset, .unset, .unset] [(.ref o45)])) (st45) ?_
          refine own_via (T45.setTop (mkF m 186 #[.val (.int p0), .val (.int p1), .val (.int p2), .val (.int p3), .val (.int ag), .val (.int ((((p3).toUInt32 >>> ((1 : Int32) &&& 31).toUInt32).toInt32) &&& (3 : Int32))), .val (.int ((((p3).toUInt32 >>> ((3 : Int32) &&& 31).toUInt32).toInt32) &&& (3 : Int32))), .val (.int to), .unset, .unset, .unset] [(.ref o45), (.ref o45)])) (fun t k => XS.dup X45.here hx rfl (hb hby at_185) rfl rfl k) ?_
          refine own_via (T45.setTop (mkF m 187 #[.val (.int p0), .val (.int p1), .val (.int p2), .val (.int p3), .val (.int ag), .val (.int ((((p3).toUInt32 >>> ((1 : Int32) &&& 31).toUInt32).toInt32) &&& (3 : Int32))), .val (.int ((((p3).toUInt32 >>> ((3 : Int32) &&& 31).toUInt32).toInt32) &&& (3 : Int32))), .val (.int to), .unset, .unset, .unset] [(.int p0), (.ref o45), (.ref o45)])) (fun t k => XS.iloadN X45.here hx rfl (hb hby at_186) rfl k) ?_
          refine own_via (T45.setTop (mkF m 189 #[.val (.int p0), .val (.int p1), .val (.int p2), .val (.int p3), .val (.int ag), .val (.int ((((p3).toUInt32 >>> ((1 : Int32) &&& 31).toUInt32).toInt32) &&& (3 : Int32))), .val (.int ((((p3).toUInt32 >>> ((3 : Int32) &&& 31).toUInt32).toInt32) &&& (3 : Int32))), .val (.int to), .unset, .unset, .unset] [(.int to), (.int p0), (.ref o45), (.ref o45)])) (fun t k => XS.iload X45.here hx rfl (hb hby at_187) rfl k) ?_
          refine own_via (T45.setTop (mkF m 190 #[.val (.int p0), .val (.int p1), .val (.int p2), .val (.int p3), .val (.int ag), .val (.int ((((p3).toUInt32 >>> ((1 : Int32) &&& 31).toUInt32).toInt32) &&& (3 : Int32))), .val (.int ((((p3).toUInt32 >>> ((3 : Int32) &&& 31).toUInt32).toInt32) &&& (3 : Int32))), .val (.int to), .unset, .unset, .unset] [(.int p2), (.int to), (.int p0), (.ref o45), (.ref o45)])) (fun t k => XS.iloadN X45.here hx rfl (hb hby at_189) rfl k) ?_
          refine own_via (T45.setTop (mkF m 192 #[.val (.int p0), .val (.int p1), .val (.int p2), .val (.int p3), .val (.int ag), .val (.int ((((p3).toUInt32 >>> ((1 : Int32) &&& 31).toUInt32).toInt32) &&& (3 : Int32))), .val (.int ((((p3).toUInt32 >>> ((3 : Int32) &&& 31).toUInt32).toInt32) &&& (3 : Int32))), .val (.int to), .unset, .unset, .unset] [(.int ag), (.int p2), (.int to), (.int p0), (.ref o45), (.ref o45)])) (fun t k => XS.iload X45.here hx rfl (hb hby at_190) rfl k) ?_
          have f46 : Fld Z h45 o45 "com/example/weaverbird/weaverbird/sql/ItemColumn" "from" "I" (.int (0 : Int32)) := (D45 (Or.inr (hw _ (List.mem_of_getElem? (i := 13) rfl))) (ty := .int) (by decide))
          have f47 : Fld Z h45 o45 "com/example/weaverbird/weaverbird/sql/ItemColumn" "to" "I" (.int (0 : Int32)) := (D45 (Or.inr (hw _ (List.mem_of_getElem? (i := 15) rfl))) (ty := .int) (by decide))
          have f48 : Fld Z h45 o45 "com/example/weaverbird/weaverbird/sql/ItemColumn" "written" "Lcom/example/weaverbird/weaverbird/sql/SqlText;" .null := (D45 (Or.inr (hw _ (List.mem_of_getElem? (i := 17) rfl))) (ty := (.object "com/example/weaverbird/weaverbird/sql/SqlText")) (by decide))
          have f49 : Fld Z h45 o45 "com/example/weaverbird/weaverbird/sql/ItemColumn" "label" "Ljava/lang/String;" .null := (D45 (Or.inr (hw _ (List.mem_of_getElem? (i := 19) rfl))) (ty := (.object "java/lang/String")) (by decide))
          have f50 : Fld Z h45 o45 "com/example/weaverbird/weaverbird/sql/ItemColumn" "parameter" "I" (.int (0 : Int32)) := (D45 (Or.inr (hw _ (List.mem_of_getElem? (i := 21) rfl))) (ty := .int) (by decide))
          have f51 : Fld Z h45 o45 "com/example/weaverbird/weaverbird/sql/ItemColumn" "aggregateArgument" "Z" (.int (0 : Int32)) := (D45 (Or.inr (hw _ (List.mem_of_getElem? (i := 23) rfl))) (ty := .boolean) (by decide))
          have f52 : Fld Z h45 o45 "com/example/weaverbird/weaverbird/sql/ItemColumn" "rankKeys" "Ljava/util/List;" .null := (D45 (Or.inr (hw _ (List.mem_of_getElem? (i := 25) rfl))) (ty := (.object "java/util/List")) (by decide))
          obtain ⟨v53, T53, h53, L53, X53, e53, q53, st53⟩ := own_cI X45 hx hZ hown (hw _ (List.mem_of_getElem? (i := 3) rfl)) (hw _ (List.mem_of_getElem? (i := 4) rfl)) (hw _ (List.mem_of_getElem? (i := 5) rfl)) rfl (by decide) (W := 1) (own_bk (rm_init4 l Z a0 hw o45 p0 to p2 ag (.int (0 : Int32)) (.int (0 : Int32)) .null .null (.int (0 : Int32)) (.int (0 : Int32)) .null h45 n0 (by omega) A45 f46 f47 f48 f49 f50 f51 f52 (show @LE.le Nat _ _ _ by omega)) hZ (hw _ (List.mem_of_getElem? (i := 5) rfl)) (hw _ (List.mem_of_getElem? (i := 2) rfl)) (by decide) (by decide)) e45 (a := o45) (Ls := #[.val (.int p0), .val (.int p1), .val (.int p2), .val (.int p3), .val (.int ag), .val (.int ((((p3).toUInt32 >>> ((1 : Int32) &&& 31).toUInt32).toInt32) &&& (3 : Int32))), .val (.int ((((p3).toUInt32 >>> ((3 : Int32) &&& 31).toUInt32).toInt32) &&& (3 : Int32))), .val (.int to), .unset, .unset, .unset]) (by rw [hml]; rfl) (argsL := [(.int p0), (.int to), (.int p2), (.int ag)]) (rest := [(.ref o45)]) rfl (lenOf own_pd17227499 rfl) rfl (Nat.le_of_eq rfl) (hb hby at_192) (by decide) (by decide)
          obtain ⟨rfl, Nq53, Kq53, f54, f55, f56, f57, f58⟩ := q53
          have N53 := Fr.app N0 Nq53
          have sz_h53 : h45.size ≤ h53.size := Kq53.1
          refine own_via (T53.setTop (mkF m 195 #[.val (.int p0), .val (.int p1), .val (.int p2), .val (.int p3), .val (.int ag), .val (.int ((((p3).toUInt32 >>> ((1 : Int32) &&& 31).toUInt32).toInt32) &&& (3 : Int32))), .val (.int ((((p3).toUInt32 >>> ((3 : Int32) &&& 31).toUInt32).toInt32) &&& (3 : Int32))), .val (.int to), .unset, .unset, .unset] [(.ref o45)])) (st53) ?_
          refine own_via (T53.setTop (mkF m 197 #[.val (.int p0), .val (.int p1), .val (.int p2), .val (.int p3), .val (.int ag), .val (.int ((((p3).toUInt32 >>> ((1 : Int32) &&& 31).toUInt32).toInt32) &&& (3 : Int32))), .val (.int ((((p3).toUInt32 >>> ((3 : Int32) &&& 31).toUInt32).toInt32) &&& (3 : Int32))), .val (.int to), .val (.ref o45), .unset, .unset] [])) (fun t k => XS.astore X53.here hx rfl (hb hby at_195) rfl rfl (l' := #[.val (.int p0), .val (.int p1), .val (.int p2), .val (.int p3), .val (.int ag), .val (.int ((((p3).toUInt32 >>> ((1 : Int32) &&& 31).toUInt32).toInt32) &&& (3 : Int32))), .val (.int ((((p3).toUInt32 >>> ((3 : Int32) &&& 31).toUInt32).toInt32) &&& (3 : Int32))), .val (.int to), .val (.ref o45), .unset, .unset]) rfl k) ?_
          refine own_via (T53.setTop (mkF m 198 #[.val (.int p0), .val (.int p1), .val (.int p2), .val (.int p3), .val (.int ag), .val (.int ((((p3).toUInt32 >>> ((1 : Int32) &&& 31).toUInt32).toInt32) &&& (3 : Int32))), .val (.int ((((p3).toUInt32 >>> ((3 : Int32) &&& 31).toUInt32).toInt32) &&& (3 : Int32))), .val (.int to), .val (.ref o45), .unset, .unset] [(.int p0)])) (fun t k => XS.iloadN X53.here hx rfl (hb hby at_197) rfl k) ?_
          refine own_via (T53.setTop (mkF m 200 #[.val (.int p0), .val (.int p1), .val (.int p2), .val (.int p3), .val (.int ag), .val (.int ((((p3).toUInt32 >>> ((1 : Int32) &&& 31).toUInt32).toInt32) &&& (3 : Int32))), .val (.int ((((p3).toUInt32 >>> ((3 : Int32) &&& 31).toUInt32).toInt32) &&& (3 : Int32))), .val (.int to), .val (.ref o45), .unset, .unset] [(.int to), (.int p0)])) (fun t k => XS.iload X53.here hx rfl (hb hby at_198) rfl k) ?_
          by_cases hE : p0 = to
          · refine own_via (T53.setTop (mkF m 203 #[.val (.int p0), .val (.int p1), .val (.int p2), .val (.int p3), .val (.int ag), .val (.int ((((p3).toUInt32 >>> ((1 : Int32) &&& 31).toUInt32).toInt32) &&& (3 : Int32))), .val (.int ((((p3).toUInt32 >>> ((3 : Int32) &&& 31).toUInt32).toInt32) &&& (3 : Int32))), .val (.int to), .val (.ref o45), .unset, .unset] [])) (fun t k => XS.icmpNo X53.here hx rfl (hb hby at_200) rfl (XT.ii_ne_f hE) k) ?_
            refine own_via (T53.setTop (mkF m 204 #[.val (.int p0), .val (.int p1), .val (.int p2), .val (.int p3), .val (.int ag), .val (.int ((((p3).toUInt32 >>> ((1 : Int32) &&& 31).toUInt32).toInt32) &&& (3 : Int32))), .val (.int ((((p3).toUInt32 >>> ((3 : Int32) &&& 31).toUInt32).toInt32) &&& (3 : Int32))), .val (.int to), .val (.ref o45), .unset, .unset] [(.int (1 : Int32))])) (fun t k => XS.iconst X53.here hx rfl (hb hby at_203) k) ?_
            refine own_via (T53.setTop (mkF m 208 #[.val (.int p0), .val (.int p1), .val (.int p2), .val (.int p3), .val (.int ag), .val (.int ((((p3).toUInt32 >>> ((1 : Int32) &&& 31).toUInt32).toInt32) &&& (3 : Int32))), .val (.int ((((p3).toUInt32 >>> ((3 : Int32) &&& 31).toUInt32).toInt32) &&& (3 : Int32))), .val (.int to), .val (.ref o45), .unset, .unset] [(.int (1 : Int32))])) (fun t k => XS.goto X53.here hx rfl (pc0 := 204) (pc' := 208) rfl (hb hby at_204) (by decide) (by decide) k) ?_
            refine own_via (T53.setTop (mkF m 210 #[.val (.int p0), .val (.int p1), .val (.int p2), .val (.int p3), .val (.int ag), .val (.int ((((p3).toUInt32 >>> ((1 : Int32) &&& 31).toUInt32).toInt32) &&& (3 : Int32))), .val (.int ((((p3).toUInt32 >>> ((3 : Int32) &&& 31).toUInt32).toInt32) &&& (3 : Int32))), .val (.int to), .val (.ref o45), .val (.int (1 : Int32)), .unset] [])) (fun t k => XS.istore X53.here hx rfl (hb hby at_208) rfl (l' := #[.val (.int p0), .val (.int p1), .val (.int p2), .val (.int p3), .val (.int ag), .val (.int ((((p3).toUInt32 >>> ((1 : Int32) &&& 31).toUInt32).toInt32) &&& (3 : Int32))), .val (.int ((((p3).toUInt32 >>> ((3 : Int32) &&& 31).toUInt32).toInt32) &&& (3 : Int32))), .val (.int to), .val (.ref o45), .val (.int (1 : Int32)), .unset]) rfl k) ?_
            refine own_via (T53.setTop (mkF m 212 #[.val (.int p0), .val (.int p1), .val (.int p2), .val (.int p3), .val (.int ag), .val (.int ((((p3).toUInt32 >>> ((1 : Int32) &&& 31).toUInt32).toInt32) &&& (3 : Int32))), .val (.int ((((p3).toUInt32 >>> ((3 : Int32) &&& 31).toUInt32).toInt32) &&& (3 : Int32))), .val (.int to), .val (.ref o45), .val (.int (1 : Int32)), .unset] [(.ref o45)])) (fun t k => XS.aload X53.here hx rfl (hb hby at_210) rfl rfl k) ?_
            obtain ⟨v59, T59, h59, L59, X59, e59, q59, st59⟩ := own_cV X53 hx hZ (y := (⟨"com/example/weaverbird/weaverbird/sql/ItemColumn", "isEmpty", "()Z"⟩ : MethodName)) (z := (⟨"com/example/weaverbird/weaverbird/sql/ItemColumn", "isEmpty", "()Z"⟩ : MethodName)) hown (hw _ (List.mem_of_getElem? (i := 26) rfl)) (hw _ (List.mem_of_getElem? (i := 27) rfl)) (notFace_of_selects (args := #[]) (mvT hZ (hw _ (List.mem_of_getElem? (i := 29) rfl)))) (hw _ (List.mem_of_getElem? (i := 29) rfl)) (hw _ (List.mem_of_getElem? (i := 28) rfl)) (by decide) (W := 0) (own_bk (rm_empty l Z a0 hw o45 p0 to h53 n0 (by omega) f58 f57 f55 f56) hZ (hw _ (List.mem_of_getElem? (i := 30) rfl)) (hw _ (List.mem_of_getElem? (i := 2) rfl)) (by decide) (by decide)) e53 f54 (Ls := #[.val (.int p0), .val (.int p1), .val (.int p2), .val (.int p3), .val (.int ag), .val (.int ((((p3).toUInt32 >>> ((1 : Int32) &&& 31).toUInt32).toInt32) &&& (3 : Int32))), .val (.int ((((p3).toUInt32 >>> ((3 : Int32) &&& 31).toUInt32).toInt32) &&& (3 : Int32))), .val (.int to), .val (.ref o45), .val (.int (1 : Int32)), .unset]) (by rw [hml]; rfl) (argsL := []) (rest := []) rfl (lenOf own_pd48405890 rfl) rfl (Nat.le_of_eq rfl) (hb hby at_212) (by decide) (by decide)
            obtain ⟨rfl, Nq59, eq59⟩ := q59
            have N59 := Fr.app N53 Nq59
            replace e59 := e59.trans eq59
            refine own_via (T59.setTop (mkF m 215 #[.val (.int p0), .val (.int p1), .val (.int p2), .val (.int p3), .val (.int ag), .val (.int ((((p3).toUInt32 >>> ((1 : Int32) &&& 31).toUInt32).toInt32) &&& (3 : Int32))), .val (.int ((((p3).toUInt32 >>> ((3 : Int32) &&& 31).toUInt32).toInt32) &&& (3 : Int32))), .val (.int to), .val (.ref o45), .val (.int (1 : Int32)), .unset] [(.int (if p0 = to then (1 : Int32) else 0))])) (st59) ?_
            refine own_via (T59.setTop (mkF m 217 #[.val (.int p0), .val (.int p1), .val (.int p2), .val (.int p3), .val (.int ag), .val (.int ((((p3).toUInt32 >>> ((1 : Int32) &&& 31).toUInt32).toInt32) &&& (3 : Int32))), .val (.int ((((p3).toUInt32 >>> ((3 : Int32) &&& 31).toUInt32).toInt32) &&& (3 : Int32))), .val (.int to), .val (.ref o45), .val (.int (1 : Int32)), .unset] [(.int (1 : Int32)), (.int (if p0 = to then (1 : Int32) else 0))])) (fun t k => XS.iload X59.here hx rfl (hb hby at_215) rfl k) ?_
            refine own_via (T59.setTop (mkF m 220 #[.val (.int p0), .val (.int p1), .val (.int p2), .val (.int p3), .val (.int ag), .val (.int ((((p3).toUInt32 >>> ((1 : Int32) &&& 31).toUInt32).toInt32) &&& (3 : Int32))), .val (.int ((((p3).toUInt32 >>> ((3 : Int32) &&& 31).toUInt32).toInt32) &&& (3 : Int32))), .val (.int to), .val (.ref o45), .val (.int (1 : Int32)), .unset] [])) (fun t k => XS.icmpNo X59.here hx rfl (hb hby at_217) rfl (XT.ii_ne_f (by simp [hE])) k) ?_
            refine own_via (T59.setTop (mkF m 222 #[.val (.int p0), .val (.int p1), .val (.int p2), .val (.int p3), .val (.int ag), .val (.int ((((p3).toUInt32 >>> ((1 : Int32) &&& 31).toUInt32).toInt32) &&& (3 : Int32))), .val (.int ((((p3).toUInt32 >>> ((3 : Int32) &&& 31).toUInt32).toInt32) &&& (3 : Int32))), .val (.int to), .val (.ref o45), .val (.int (1 : Int32)), .unset] [(.ref o45)])) (fun t k => XS.aload X59.here hx rfl (hb hby at_220) rfl rfl k) ?_
            obtain ⟨v60, T60, h60, L60, X60, e60, q60, st60⟩ := own_cV X59 hx hZ (y := (⟨"com/example/weaverbird/weaverbird/sql/ItemColumn", "from", "()I"⟩ : MethodName)) (z := (⟨"com/example/weaverbird/weaverbird/sql/ItemColumn", "from", "()I"⟩ : MethodName)) hown (hw _ (List.mem_of_getElem? (i := 31) rfl)) (hw _ (List.mem_of_getElem? (i := 32) rfl)) (notFace_of_selects (args := #[]) (mvT hZ (hw _ (List.mem_of_getElem? (i := 34) rfl)))) (hw _ (List.mem_of_getElem? (i := 34) rfl)) (hw _ (List.mem_of_getElem? (i := 33) rfl)) (by decide) (W := 0) (own_bk (rm_from l Z a0 hw o45 p0 h53 n0 (by omega) f55) hZ (hw _ (List.mem_of_getElem? (i := 35) rfl)) (hw _ (List.mem_of_getElem? (i := 2) rfl)) (by decide) (by decide)) e59 f54 (Ls := #[.val (.int p0), .val (.int p1), .val (.int p2), .val (.int p3), .val (.int ag), .val (.int ((((p3).toUInt32 >>> ((1 : Int32) &&& 31).toUInt32).toInt32) &&& (3 : Int32))), .val (.int ((((p3).toUInt32 >>> ((3 : Int32) &&& 31).toUInt32).toInt32) &&& (3 : Int32))), .val (.int to), .val (.ref o45), .val (.int (1 : Int32)), .unset]) (by rw [hml]; rfl) (argsL := []) (rest := []) rfl (lenOf own_pd93735326 rfl) rfl (Nat.le_of_eq rfl) (hb hby at_222) (by decide) (by decide)
            obtain ⟨rfl, Nq60, eq60⟩ := q60
            have N60 := Fr.app N59 Nq60
            replace e60 := e60.trans eq60
            refine own_via (T60.setTop (mkF m 225 #[.val (.int p0), .val (.int p1), .val (.int p2), .val (.int p3), .val (.int ag), .val (.int ((((p3).toUInt32 >>> ((1 : Int32) &&& 31).toUInt32).toInt32) &&& (3 : Int32))), .val (.int ((((p3).toUInt32 >>> ((3 : Int32) &&& 31).toUInt32).toInt32) &&& (3 : Int32))), .val (.int to), .val (.ref o45), .val (.int (1 : Int32)), .unset] [(.int p0)])) (st60) ?_
            refine own_via (T60.setTop (mkF m 226 #[.val (.int p0), .val (.int p1), .val (.int p2), .val (.int p3), .val (.int ag), .val (.int ((((p3).toUInt32 >>> ((1 : Int32) &&& 31).toUInt32).toInt32) &&& (3 : Int32))), .val (.int ((((p3).toUInt32 >>> ((3 : Int32) &&& 31).toUInt32).toInt32) &&& (3 : Int32))), .val (.int to), .val (.ref o45), .val (.int (1 : Int32)), .unset] [(.int p0), (.int p0)])) (fun t k => XS.iloadN X60.here hx rfl (hb hby at_225) rfl k) ?_
            refine own_via (T60.setTop (mkF m 229 #[.val (.int p0), .val (.int p1), .val (.int p2), .val (.int p3), .val (.int ag), .val (.int ((((p3).toUInt32 >>> ((1 : Int32) &&& 31).toUInt32).toInt32) &&& (3 : Int32))), .val (.int ((((p3).toUInt32 >>> ((3 : Int32) &&& 31).toUInt32).toInt32) &&& (3 : Int32))), .val (.int to), .val (.ref o45), .val (.int (1 : Int32)), .unset] [])) (fun t k => XS.icmpNo X60.here hx rfl (hb hby at_226) rfl (XT.ii_ne_f rfl) k) ?_
            refine own_via (T60.setTop (mkF m 231 #[.val (.int p0), .val (.int p1), .val (.int p2), .val (.int p3), .val (.int ag), .val (.int ((((p3).toUInt32 >>> ((1 : Int32) &&& 31).toUInt32).toInt32) &&& (3 : Int32))), .val (.int ((((p3).toUInt32 >>> ((3 : Int32) &&& 31).toUInt32).toInt32) &&& (3 : Int32))), .val (.int to), .val (.ref o45), .val (.int (1 : Int32)), .unset] [(.ref o45)])) (fun t k => XS.aload X60.here hx rfl (hb hby at_229) rfl rfl k) ?_
            obtain ⟨v61, T61, h61, L61, X61, e61, q61, st61⟩ := own_cV X60 hx hZ (y := (⟨"com/example/weaverbird/weaverbird/sql/ItemColumn", "to", "()I"⟩ : MethodName)) (z := (⟨"com/example/weaverbird/weaverbird/sql/ItemColumn", "to", "()I"⟩ : MethodName)) hown (hw _ (List.mem_of_getElem? (i := 36) rfl)) (hw _ (List.mem_of_getElem? (i := 37) rfl)) (notFace_of_selects (args := #[]) (mvT hZ (hw _ (List.mem_of_getElem? (i := 39) rfl)))) (hw _ (List.mem_of_getElem? (i := 39) rfl)) (hw _ (List.mem_of_getElem? (i := 38) rfl)) (by decide) (W := 0) (own_bk (rm_to l Z a0 hw o45 to h53 n0 (by omega) f56) hZ (hw _ (List.mem_of_getElem? (i := 40) rfl)) (hw _ (List.mem_of_getElem? (i := 2) rfl)) (by decide) (by decide)) e60 f54 (Ls := #[.val (.int p0), .val (.int p1), .val (.int p2), .val (.int p3), .val (.int ag), .val (.int ((((p3).toUInt32 >>> ((1 : Int32) &&& 31).toUInt32).toInt32) &&& (3 : Int32))), .val (.int ((((p3).toUInt32 >>> ((3 : Int32) &&& 31).toUInt32).toInt32) &&& (3 : Int32))), .val (.int to), .val (.ref o45), .val (.int (1 : Int32)), .unset]) (by rw [hml]; rfl) (argsL := []) (rest := []) rfl (lenOf own_pd93735326 rfl) rfl (Nat.le_of_eq rfl) (hb hby at_231) (by decide) (by decide)
            obtain ⟨rfl, Nq61, eq61⟩ := q61
            have N61 := Fr.app N60 Nq61
            replace e61 := e61.trans eq61
            refine own_via (T61.setTop (mkF m 234 #[.val (.int p0), .val (.int p1), .val (.int p2), .val (.int p3), .val (.int ag), .val (.int ((((p3).toUInt32 >>> ((1 : Int32) &&& 31).toUInt32).toInt32) &&& (3 : Int32))), .val (.int ((((p3).toUInt32 >>> ((3 : Int32) &&& 31).toUInt32).toInt32) &&& (3 : Int32))), .val (.int to), .val (.ref o45), .val (.int (1 : Int32)), .unset] [(.int to)])) (st61) ?_
            refine own_via (T61.setTop (mkF m 236 #[.val (.int p0), .val (.int p1), .val (.int p2), .val (.int p3), .val (.int ag), .val (.int ((((p3).toUInt32 >>> ((1 : Int32) &&& 31).toUInt32).toInt32) &&& (3 : Int32))), .val (.int ((((p3).toUInt32 >>> ((3 : Int32) &&& 31).toUInt32).toInt32) &&& (3 : Int32))), .val (.int to), .val (.ref o45), .val (.int (1 : Int32)), .unset] [(.int to), (.int to)])) (fun t k => XS.iload X61.here hx rfl (hb hby at_234) rfl k) ?_
            refine own_via (T61.setTop (mkF m 239 #[.val (.int p0), .val (.int p1), .val (.int p2), .val (.int p3), .val (.int ag), .val (.int ((((p3).toUInt32 >>> ((1 : Int32) &&& 31).toUInt32).toInt32) &&& (3 : Int32))), .val (.int ((((p3).toUInt32 >>> ((3 : Int32) &&& 31).toUInt32).toInt32) &&& (3 : Int32))), .val (.int to), .val (.ref o45), .val (.int (1 : Int32)), .unset] [])) (fun t k => XS.icmpNo X61.here hx rfl (hb hby at_236) rfl (XT.ii_ne_f rfl) k) ?_
            refine own_via (T61.setTop (mkF m 240 #[.val (.int p0), .val (.int p1), .val (.int p2), .val (.int p3), .val (.int ag), .val (.int ((((p3).toUInt32 >>> ((1 : Int32) &&& 31).toUInt32).toInt32) &&& (3 : Int32))), .val (.int ((((p3).toUInt32 >>> ((3 : Int32) &&& 31).toUInt32).toInt32) &&& (3 : Int32))), .val (.int to), .val (.ref o45), .val (.int (1 : Int32)), .unset] [(.int (1 : Int32))])) (fun t k => XS.iconst X61.here hx rfl (hb hby at_239) k) ?_
            refine own_via (T61.setTop (mkF m 244 #[.val (.int p0), .val (.int p1), .val (.int p2), .val (.int p3), .val (.int ag), .val (.int ((((p3).toUInt32 >>> ((1 : Int32) &&& 31).toUInt32).toInt32) &&& (3 : Int32))), .val (.int ((((p3).toUInt32 >>> ((3 : Int32) &&& 31).toUInt32).toInt32) &&& (3 : Int32))), .val (.int to), .val (.ref o45), .val (.int (1 : Int32)), .unset] [(.int (1 : Int32))])) (fun t k => XS.goto X61.here hx rfl (pc0 := 240) (pc' := 244) rfl (hb hby at_240) (by decide) (by decide) k) ?_
            exact own_retN X61 hx hlk (t := .boolean) hret (by simp) (hb hby at_244) e61 (⟨rfl, N61⟩) (by decide) (by decide)
          · refine own_via (T53.setTop (mkF m 207 #[.val (.int p0), .val (.int p1), .val (.int p2), .val (.int p3), .val (.int ag), .val (.int ((((p3).toUInt32 >>> ((1 : Int32) &&& 31).toUInt32).toInt32) &&& (3 : Int32))), .val (.int ((((p3).toUInt32 >>> ((3 : Int32) &&& 31).toUInt32).toInt32) &&& (3 : Int32))), .val (.int to), .val (.ref o45), .unset, .unset] [])) (fun t k => XS.icmpYes X53.here hx rfl (pc0 := 200) (pc' := 207) rfl (hb hby at_200) rfl (XT.ii_ne_t hE) (by decide) (by decide) k) ?_
            refine own_via (T53.setTop (mkF m 208 #[.val (.int p0), .val (.int p1), .val (.int p2), .val (.int p3), .val (.int ag), .val (.int ((((p3).toUInt32 >>> ((1 : Int32) &&& 31).toUInt32).toInt32) &&& (3 : Int32))), .val (.int ((((p3).toUInt32 >>> ((3 : Int32) &&& 31).toUInt32).toInt32) &&& (3 : Int32))), .val (.int to), .val (.ref o45), .unset, .unset] [(.int (0 : Int32))])) (fun t k => XS.iconst X53.here hx rfl (hb hby at_207) k) ?_
            refine own_via (T53.setTop (mkF m 210 #[.val (.int p0), .val (.int p1), .val (.int p2), .val (.int p3), .val (.int ag), .val (.int ((((p3).toUInt32 >>> ((1 : Int32) &&& 31).toUInt32).toInt32) &&& (3 : Int32))), .val (.int ((((p3).toUInt32 >>> ((3 : Int32) &&& 31).toUInt32).toInt32) &&& (3 : Int32))), .val (.int to), .val (.ref o45), .val (.int (0 : Int32)), .unset] [])) (fun t k => XS.istore X53.here hx rfl (hb hby at_208) rfl (l' := #[.val (.int p0), .val (.int p1), .val (.int p2), .val (.int p3), .val (.int ag), .val (.int ((((p3).toUInt32 >>> ((1 : Int32) &&& 31).toUInt32).toInt32) &&& (3 : Int32))), .val (.int ((((p3).toUInt32 >>> ((3 : Int32) &&& 31).toUInt32).toInt32) &&& (3 : Int32))), .val (.int to), .val (.ref o45), .val (.int (0 : Int32)), .unset]) rfl k) ?_
            refine own_via (T53.setTop (mkF m 212 #[.val (.int p0), .val (.int p1), .val (.int p2), .val (.int p3), .val (.int ag), .val (.int ((((p3).toUInt32 >>> ((1 : Int32) &&& 31).toUInt32).toInt32) &&& (3 : Int32))), .val (.int ((((p3).toUInt32 >>> ((3 : Int32) &&& 31).toUInt32).toInt32) &&& (3 : Int32))), .val (.int to), .val (.ref o45), .val (.int (0 : Int32)), .unset] [(.ref o45)])) (fun t k => XS.aload X53.here hx rfl (hb hby at_210) rfl rfl k) ?_
            obtain ⟨v62, T62, h62, L62, X62, e62, q62, st62⟩ := own_cV X53 hx hZ (y := (⟨"com/example/weaverbird/weaverbird/sql/ItemColumn", "isEmpty", "()Z"⟩ : MethodName)) (z := (⟨"com/example/weaverbird/weaverbird/sql/ItemColumn", "isEmpty", "()Z"⟩ : MethodName)) hown (hw _ (List.mem_of_getElem? (i := 26) rfl)) (hw _ (List.mem_of_getElem? (i := 27) rfl)) (notFace_of_selects (args := #[]) (mvT hZ (hw _ (List.mem_of_getElem? (i := 29) rfl)))) (hw _ (List.mem_of_getElem? (i := 29) rfl)) (hw _ (List.mem_of_getElem? (i := 28) rfl)) (by decide) (W := 0) (own_bk (rm_empty l Z a0 hw o45 p0 to h53 n0 (by omega) f58 f57 f55 f56) hZ (hw _ (List.mem_of_getElem? (i := 30) rfl)) (hw _ (List.mem_of_getElem? (i := 2) rfl)) (by decide) (by decide)) e53 f54 (Ls := #[.val (.int p0), .val (.int p1), .val (.int p2), .val (.int p3), .val (.int ag), .val (.int ((((p3).toUInt32 >>> ((1 : Int32) &&& 31).toUInt32).toInt32) &&& (3 : Int32))), .val (.int ((((p3).toUInt32 >>> ((3 : Int32) &&& 31).toUInt32).toInt32) &&& (3 : Int32))), .val (.int to), .val (.ref o45), .val (.int (0 : Int32)), .unset]) (by rw [hml]; rfl) (argsL := []) (rest := []) rfl (lenOf own_pd48405890 rfl) rfl (Nat.le_of_eq rfl) (hb hby at_212) (by decide) (by decide)
            obtain ⟨rfl, Nq62, eq62⟩ := q62
            have N62 := Fr.app N53 Nq62
            replace e62 := e62.trans eq62
            refine own_via (T62.setTop (mkF m 215 #[.val (.int p0), .val (.int p1), .val (.int p2), .val (.int p3), .val (.int ag), .val (.int ((((p3).toUInt32 >>> ((1 : Int32) &&& 31).toUInt32).toInt32) &&& (3 : Int32))), .val (.int ((((p3).toUInt32 >>> ((3 : Int32) &&& 31).toUInt32).toInt32) &&& (3 : Int32))), .val (.int to), .val (.ref o45), .val (.int (0 : Int32)), .unset] [(.int (if p0 = to then (1 : Int32) else 0))])) (st62) ?_
            refine own_via (T62.setTop (mkF m 217 #[.val (.int p0), .val (.int p1), .val (.int p2), .val (.int p3), .val (.int ag), .val (.int ((((p3).toUInt32 >>> ((1 : Int32) &&& 31).toUInt32).toInt32) &&& (3 : Int32))), .val (.int ((((p3).toUInt32 >>> ((3 : Int32) &&& 31).toUInt32).toInt32) &&& (3 : Int32))), .val (.int to), .val (.ref o45), .val (.int (0 : Int32)), .unset] [(.int (0 : Int32)), (.int (if p0 = to then (1 : Int32) else 0))])) (fun t k => XS.iload X62.here hx rfl (hb hby at_215) rfl k) ?_
            refine own_via (T62.setTop (mkF m 220 #[.val (.int p0), .val (.int p1), .val (.int p2), .val (.int p3), .val (.int ag), .val (.int ((((p3).toUInt32 >>> ((1 : Int32) &&& 31).toUInt32).toInt32) &&& (3 : Int32))), .val (.int ((((p3).toUInt32 >>> ((3 : Int32) &&& 31).toUInt32).toInt32) &&& (3 : Int32))), .val (.int to), .val (.ref o45), .val (.int (0 : Int32)), .unset] [])) (fun t k => XS.icmpNo X62.here hx rfl (hb hby at_217) rfl (XT.ii_ne_f (by simp [hE])) k) ?_
            refine own_via (T62.setTop (mkF m 222 #[.val (.int p0), .val (.int p1), .val (.int p2), .val (.int p3), .val (.int ag), .val (.int ((((p3).toUInt32 >>> ((1 : Int32) &&& 31).toUInt32).toInt32) &&& (3 : Int32))), .val (.int ((((p3).toUInt32 >>> ((3 : Int32) &&& 31).toUInt32).toInt32) &&& (3 : Int32))), .val (.int to), .val (.ref o45), .val (.int (0 : Int32)), .unset] [(.ref o45)])) (fun t k => XS.aload X62.here hx rfl (hb hby at_220) rfl rfl k) ?_
            obtain ⟨v63, T63, h63, L63, X63, e63, q63, st63⟩ := own_cV X62 hx hZ (y := (⟨"com/example/weaverbird/weaverbird/sql/ItemColumn", "from", "()I"⟩ : MethodName)) (z := (⟨"com/example/weaverbird/weaverbird/sql/ItemColumn", "from", "()I"⟩ : MethodName)) hown (hw _ (List.mem_of_getElem? (i := 31) rfl)) (hw _ (List.mem_of_getElem? (i := 32) rfl)) (notFace_of_selects (args := #[]) (mvT hZ (hw _ (List.mem_of_getElem? (i := 34) rfl)))) (hw _ (List.mem_of_getElem? (i := 34) rfl)) (hw _ (List.mem_of_getElem? (i := 33) rfl)) (by decide) (W := 0) (own_bk (rm_from l Z a0 hw o45 p0 h53 n0 (by omega) f55) hZ (hw _ (List.mem_of_getElem? (i := 35) rfl)) (hw _ (List.mem_of_getElem? (i := 2) rfl)) (by decide) (by decide)) e62 f54 (Ls := #[.val (.int p0), .val (.int p1), .val (.int p2), .val (.int p3), .val (.int ag), .val (.int ((((p3).toUInt32 >>> ((1 : Int32) &&& 31).toUInt32).toInt32) &&& (3 : Int32))), .val (.int ((((p3).toUInt32 >>> ((3 : Int32) &&& 31).toUInt32).toInt32) &&& (3 : Int32))), .val (.int to), .val (.ref o45), .val (.int (0 : Int32)), .unset]) (by rw [hml]; rfl) (argsL := []) (rest := []) rfl (lenOf own_pd93735326 rfl) rfl (Nat.le_of_eq rfl) (hb hby at_222) (by decide) (by decide)
            obtain ⟨rfl, Nq63, eq63⟩ := q63
            have N63 := Fr.app N62 Nq63
            replace e63 := e63.trans eq63
            refine own_via (T63.setTop (mkF m 225 #[.val (.int p0), .val (.int p1), .val (.int p2), .val (.int p3), .val (.int ag), .val (.int ((((p3).toUInt32 >>> ((1 : Int32) &&& 31).toUInt32).toInt32) &&& (3 : Int32))), .val (.int ((((p3).toUInt32 >>> ((3 : Int32) &&& 31).toUInt32).toInt32) &&& (3 : Int32))), .val (.int to), .val (.ref o45), .val (.int (0 : Int32)), .unset] [(.int p0)])) (st63) ?_
            refine own_via (T63.setTop (mkF m 226 #[.val (.int p0), .val (.int p1), .val (.int p2), .val (.int p3), .val (.int ag), .val (.int ((((p3).toUInt32 >>> ((1 : Int32) &&& 31).toUInt32).toInt32) &&& (3 : Int32))), .val (.int ((((p3).toUInt32 >>> ((3 : Int32) &&& 31).toUInt32).toInt32) &&& (3 : Int32))), .val (.int to), .val (.ref o45), .val (.int (0 : Int32)), .unset] [(.int p0), (.int p0)])) (fun t k => XS.iloadN X63.here hx rfl (hb hby at_225) rfl k) ?_
            refine own_via (T63.setTop (mkF m 229 #[.val (.int p0), .val (.int p1), .val (.int p2), .val (.int p3), .val (.int ag), .val (.int ((((p3).toUInt32 >>> ((1 : Int32) &&& 31).toUInt32).toInt32) &&& (3 : Int32))), .val (.int ((((p3).toUInt32 >>> ((3 : Int32) &&& 31).toUInt32).toInt32) &&& (3 : Int32))), .val (.int to), .val (.ref o45), .val (.int (0 : Int32)), .unset] [])) (fun t k => XS.icmpNo X63.here hx rfl (hb hby at_226) rfl (XT.ii_ne_f rfl) k) ?_
            refine own_via (T63.setTop (mkF m 231 #[.val (.int p0), .val (.int p1), .val (.int p2), .val (.int p3), .val (.int ag), .val (.int ((((p3).toUInt32 >>> ((1 : Int32) &&& 31).toUInt32).toInt32) &&& (3 : Int32))), .val (.int ((((p3).toUInt32 >>> ((3 : Int32) &&& 31).toUInt32).toInt32) &&& (3 : Int32))), .val (.int to), .val (.ref o45), .val (.int (0 : Int32)), .unset] [(.ref o45)])) (fun t k => XS.aload X63.here hx rfl (hb hby at_229) rfl rfl k) ?_
            obtain ⟨v64, T64, h64, L64, X64, e64, q64, st64⟩ := own_cV X63 hx hZ (y := (⟨"com/example/weaverbird/weaverbird/sql/ItemColumn", "to", "()I"⟩ : MethodName)) (z := (⟨"com/example/weaverbird/weaverbird/sql/ItemColumn", "to", "()I"⟩ : MethodName)) hown (hw _ (List.mem_of_getElem? (i := 36) rfl)) (hw _ (List.mem_of_getElem? (i := 37) rfl)) (notFace_of_selects (args := #[]) (mvT hZ (hw _ (List.mem_of_getElem? (i := 39) rfl)))) (hw _ (List.mem_of_getElem? (i := 39) rfl)) (hw _ (List.mem_of_getElem? (i := 38) rfl)) (by decide) (W := 0) (own_bk (rm_to l Z a0 hw o45 to h53 n0 (by omega) f56) hZ (hw _ (List.mem_of_getElem? (i := 40) rfl)) (hw _ (List.mem_of_getElem? (i := 2) rfl)) (by decide) (by decide)) e63 f54 (Ls := #[.val (.int p0), .val (.int p1), .val (.int p2), .val (.int p3), .val (.int ag), .val (.int ((((p3).toUInt32 >>> ((1 : Int32) &&& 31).toUInt32).toInt32) &&& (3 : Int32))), .val (.int ((((p3).toUInt32 >>> ((3 : Int32) &&& 31).toUInt32).toInt32) &&& (3 : Int32))), .val (.int to), .val (.ref o45), .val (.int (0 : Int32)), .unset]) (by rw [hml]; rfl) (argsL := []) (rest := []) rfl (lenOf own_pd93735326 rfl) rfl (Nat.le_of_eq rfl) (hb hby at_231) (by decide) (by decide)
            obtain ⟨rfl, Nq64, eq64⟩ := q64
            have N64 := Fr.app N63 Nq64
            replace e64 := e64.trans eq64
            refine own_via (T64.setTop (mkF m 234 #[.val (.int p0), .val (.int p1), .val (.int p2), .val (.int p3), .val (.int ag), .val (.int ((((p3).toUInt32 >>> ((1 : Int32) &&& 31).toUInt32).toInt32) &&& (3 : Int32))), .val (.int ((((p3).toUInt32 >>> ((3 : Int32) &&& 31).toUInt32).toInt32) &&& (3 : Int32))), .val (.int to), .val (.ref o45), .val (.int (0 : Int32)), .unset] [(.int to)])) (st64) ?_
            refine own_via (T64.setTop (mkF m 236 #[.val (.int p0), .val (.int p1), .val (.int p2), .val (.int p3), .val (.int ag), .val (.int ((((p3).toUInt32 >>> ((1 : Int32) &&& 31).toUInt32).toInt32) &&& (3 : Int32))), .val (.int ((((p3).toUInt32 >>> ((3 : Int32) &&& 31).toUInt32).toInt32) &&& (3 : Int32))), .val (.int to), .val (.ref o45), .val (.int (0 : Int32)), .unset] [(.int to), (.int to)])) (fun t k => XS.iload X64.here hx rfl (hb hby at_234) rfl k) ?_
            refine own_via (T64.setTop (mkF m 239 #[.val (.int p0), .val (.int p1), .val (.int p2), .val (.int p3), .val (.int ag), .val (.int ((((p3).toUInt32 >>> ((1 : Int32) &&& 31).toUInt32).toInt32) &&& (3 : Int32))), .val (.int ((((p3).toUInt32 >>> ((3 : Int32) &&& 31).toUInt32).toInt32) &&& (3 : Int32))), .val (.int to), .val (.ref o45), .val (.int (0 : Int32)), .unset] [])) (fun t k => XS.icmpNo X64.here hx rfl (hb hby at_236) rfl (XT.ii_ne_f rfl) k) ?_
            refine own_via (T64.setTop (mkF m 240 #[.val (.int p0), .val (.int p1), .val (.int p2), .val (.int p3), .val (.int ag), .val (.int ((((p3).toUInt32 >>> ((1 : Int32) &&& 31).toUInt32).toInt32) &&& (3 : Int32))), .val (.int ((((p3).toUInt32 >>> ((3 : Int32) &&& 31).toUInt32).toInt32) &&& (3 : Int32))), .val (.int to), .val (.ref o45), .val (.int (0 : Int32)), .unset] [(.int (1 : Int32))])) (fun t k => XS.iconst X64.here hx rfl (hb hby at_239) k) ?_
            refine own_via (T64.setTop (mkF m 244 #[.val (.int p0), .val (.int p1), .val (.int p2), .val (.int p3), .val (.int ag), .val (.int ((((p3).toUInt32 >>> ((1 : Int32) &&& 31).toUInt32).toInt32) &&& (3 : Int32))), .val (.int ((((p3).toUInt32 >>> ((3 : Int32) &&& 31).toUInt32).toInt32) &&& (3 : Int32))), .val (.int to), .val (.ref o45), .val (.int (0 : Int32)), .unset] [(.int (1 : Int32))])) (fun t k => XS.goto X64.here hx rfl (pc0 := 240) (pc' := 244) rfl (hb hby at_240) (by decide) (by decide) k) ?_
            exact own_retN X64 hx hlk (t := .boolean) hret (by simp) (hb hby at_244) e64 (⟨rfl, N64⟩) (by decide) (by decide)
    refine own_via (T0.setTop (mkF m 29 #[.val (.int p0), .val (.int p1), .val (.int p2), .val (.int p3), .val (.int ag), .val (.int ((((p3).toUInt32 >>> ((1 : Int32) &&& 31).toUInt32).toInt32) &&& (3 : Int32))), .val (.int ((((p3).toUInt32 >>> ((3 : Int32) &&& 31).toUInt32).toInt32) &&& (3 : Int32))), .unset, .unset, .unset, .unset] [(.int ((((p3).toUInt32 >>> ((3 : Int32) &&& 31).toUInt32).toInt32) &&& (3 : Int32)))])) (fun t k => XS.iload X0.here hx rfl (hb hby at_27) rfl k) ?_
    by_cases ht0 : ((((p3).toUInt32 >>> ((3 : Int32) &&& 31).toUInt32).toInt32) &&& (3 : Int32)) = 0
    · refine own_via (T0.setTop (mkF m 32 #[.val (.int p0), .val (.int p1), .val (.int p2), .val (.int p3), .val (.int ag), .val (.int ((((p3).toUInt32 >>> ((1 : Int32) &&& 31).toUInt32).toInt32) &&& (3 : Int32))), .val (.int ((((p3).toUInt32 >>> ((3 : Int32) &&& 31).toUInt32).toInt32) &&& (3 : Int32))), .unset, .unset, .unset, .unset] [])) (fun t k => XS.ifNo X0.here hx rfl (hb hby at_29) rfl (XT.i0_ne_f ht0) k) ?_
      refine own_via (T0.setTop (mkF m 33 #[.val (.int p0), .val (.int p1), .val (.int p2), .val (.int p3), .val (.int ag), .val (.int ((((p3).toUInt32 >>> ((1 : Int32) &&& 31).toUInt32).toInt32) &&& (3 : Int32))), .val (.int ((((p3).toUInt32 >>> ((3 : Int32) &&& 31).toUInt32).toInt32) &&& (3 : Int32))), .unset, .unset, .unset, .unset] [(.int p0)])) (fun t k => XS.iloadN X0.here hx rfl (hb hby at_32) rfl k) ?_
      refine own_via (T0.setTop (mkF m 35 #[.val (.int p0), .val (.int p1), .val (.int p2), .val (.int p3), .val (.int ag), .val (.int ((((p3).toUInt32 >>> ((1 : Int32) &&& 31).toUInt32).toInt32) &&& (3 : Int32))), .val (.int ((((p3).toUInt32 >>> ((3 : Int32) &&& 31).toUInt32).toInt32) &&& (3 : Int32))), .val (.int p0), .unset, .unset, .unset] [])) (fun t k => XS.istore X0.here hx rfl (hb hby at_33) rfl (l' := #[.val (.int p0), .val (.int p1), .val (.int p2), .val (.int p3), .val (.int ag), .val (.int ((((p3).toUInt32 >>> ((1 : Int32) &&& 31).toUInt32).toInt32) &&& (3 : Int32))), .val (.int ((((p3).toUInt32 >>> ((3 : Int32) &&& 31).toUInt32).toInt32) &&& (3 : Int32))), .val (.int p0), .unset, .unset, .unset]) rfl k) ?_
      refine own_via (T0.setTop (mkF m 69 #[.val (.int p0), .val (.int p1), .val (.int p2), .val (.int p3), .val (.int ag), .val (.int ((((p3).toUInt32 >>> ((1 : Int32) &&& 31).toUInt32).toInt32) &&& (3 : Int32))), .val (.int ((((p3).toUInt32 >>> ((3 : Int32) &&& 31).toUInt32).toInt32) &&& (3 : Int32))), .val (.int p0), .unset, .unset, .unset] [])) (fun t k => XS.goto X0.here hx rfl (pc0 := 35) (pc' := 69) rfl (hb hby at_35) (by decide) (by decide) k) ?_
      exact J69 _
    · refine own_via (T0.setTop (mkF m 38 #[.val (.int p0), .val (.int p1), .val (.int p2), .val (.int p3), .val (.int ag), .val (.int ((((p3).toUInt32 >>> ((1 : Int32) &&& 31).toUInt32).toInt32) &&& (3 : Int32))), .val (.int ((((p3).toUInt32 >>> ((3 : Int32) &&& 31).toUInt32).toInt32) &&& (3 : Int32))), .unset, .unset, .unset, .unset] [])) (fun t k => XS.ifYes X0.here hx rfl (pc0 := 29) (pc' := 38) rfl (hb hby at_29) rfl (XT.i0_ne_t ht0) (by decide) (by decide) k) ?_
      refine own_via (T0.setTop (mkF m 40 #[.val (.int p0), .val (.int p1), .val (.int p2), .val (.int p3), .val (.int ag), .val (.int ((((p3).toUInt32 >>> ((1 : Int32) &&& 31).toUInt32).toInt32) &&& (3 : Int32))), .val (.int ((((p3).toUInt32 >>> ((3 : Int32) &&& 31).toUInt32).toInt32) &&& (3 : Int32))), .unset, .unset, .unset, .unset] [(.int ((((p3).toUInt32 >>> ((3 : Int32) &&& 31).toUInt32).toInt32) &&& (3 : Int32)))])) (fun t k => XS.iload X0.here hx rfl (hb hby at_38) rfl k) ?_
      refine own_via (T0.setTop (mkF m 41 #[.val (.int p0), .val (.int p1), .val (.int p2), .val (.int p3), .val (.int ag), .val (.int ((((p3).toUInt32 >>> ((1 : Int32) &&& 31).toUInt32).toInt32) &&& (3 : Int32))), .val (.int ((((p3).toUInt32 >>> ((3 : Int32) &&& 31).toUInt32).toInt32) &&& (3 : Int32))), .unset, .unset, .unset, .unset] [(.int (1 : Int32)), (.int ((((p3).toUInt32 >>> ((3 : Int32) &&& 31).toUInt32).toInt32) &&& (3 : Int32)))])) (fun t k => XS.iconst X0.here hx rfl (hb hby at_40) k) ?_
      by_cases ht1 : ((((p3).toUInt32 >>> ((3 : Int32) &&& 31).toUInt32).toInt32) &&& (3 : Int32)) = (1 : Int32)
      · refine own_via (T0.setTop (mkF m 44 #[.val (.int p0), .val (.int p1), .val (.int p2), .val (.int p3), .val (.int ag), .val (.int ((((p3).toUInt32 >>> ((1 : Int32) &&& 31).toUInt32).toInt32) &&& (3 : Int32))), .val (.int ((((p3).toUInt32 >>> ((3 : Int32) &&& 31).toUInt32).toInt32) &&& (3 : Int32))), .unset, .unset, .unset, .unset] [])) (fun t k => XS.icmpNo X0.here hx rfl (hb hby at_41) rfl (XT.ii_ne_f ht1) k) ?_
        refine own_via (T0.setTop (mkF m 45 #[.val (.int p0), .val (.int p1), .val (.int p2), .val (.int p3), .val (.int ag), .val (.int ((((p3).toUInt32 >>> ((1 : Int32) &&& 31).toUInt32).toInt32) &&& (3 : Int32))), .val (.int ((((p3).toUInt32 >>> ((3 : Int32) &&& 31).toUInt32).toInt32) &&& (3 : Int32))), .unset, .unset, .unset, .unset] [(.int p0)])) (fun t k => XS.iloadN X0.here hx rfl (hb hby at_44) rfl k) ?_
        refine own_via (T0.setTop (mkF m 46 #[.val (.int p0), .val (.int p1), .val (.int p2), .val (.int p3), .val (.int ag), .val (.int ((((p3).toUInt32 >>> ((1 : Int32) &&& 31).toUInt32).toInt32) &&& (3 : Int32))), .val (.int ((((p3).toUInt32 >>> ((3 : Int32) &&& 31).toUInt32).toInt32) &&& (3 : Int32))), .unset, .unset, .unset, .unset] [(.int (1 : Int32)), (.int p0)])) (fun t k => XS.iconst X0.here hx rfl (hb hby at_45) k) ?_
        refine own_via (T0.setTop (mkF m 47 #[.val (.int p0), .val (.int p1), .val (.int p2), .val (.int p3), .val (.int ag), .val (.int ((((p3).toUInt32 >>> ((1 : Int32) &&& 31).toUInt32).toInt32) &&& (3 : Int32))), .val (.int ((((p3).toUInt32 >>> ((3 : Int32) &&& 31).toUInt32).toInt32) &&& (3 : Int32))), .unset, .unset, .unset, .unset] [(.int (p0 + (1 : Int32)))])) (fun t k => XS.iadd X0.here hx rfl (hb hby at_46) rfl k) ?_
        refine own_via (T0.setTop (mkF m 49 #[.val (.int p0), .val (.int p1), .val (.int p2), .val (.int p3), .val (.int ag), .val (.int ((((p3).toUInt32 >>> ((1 : Int32) &&& 31).toUInt32).toInt32) &&& (3 : Int32))), .val (.int ((((p3).toUInt32 >>> ((3 : Int32) &&& 31).toUInt32).toInt32) &&& (3 : Int32))), .val (.int (p0 + (1 : Int32))), .unset, .unset, .unset] [])) (fun t k => XS.istore X0.here hx rfl (hb hby at_47) rfl (l' := #[.val (.int p0), .val (.int p1), .val (.int p2), .val (.int p3), .val (.int ag), .val (.int ((((p3).toUInt32 >>> ((1 : Int32) &&& 31).toUInt32).toInt32) &&& (3 : Int32))), .val (.int ((((p3).toUInt32 >>> ((3 : Int32) &&& 31).toUInt32).toInt32) &&& (3 : Int32))), .val (.int (p0 + (1 : Int32))), .unset, .unset, .unset]) rfl k) ?_
        refine own_via (T0.setTop (mkF m 69 #[.val (.int p0), .val (.int p1), .val (.int p2), .val (.int p3), .val (.int ag), .val (.int ((((p3).toUInt32 >>> ((1 : Int32) &&& 31).toUInt32).toInt32) &&& (3 : Int32))), .val (.int ((((p3).toUInt32 >>> ((3 : Int32) &&& 31).toUInt32).toInt32) &&& (3 : Int32))), .val (.int (p0 + (1 : Int32))), .unset, .unset, .unset] [])) (fun t k => XS.goto X0.here hx rfl (pc0 := 49) (pc' := 69) rfl (hb hby at_49) (by decide) (by decide) k) ?_
        exact J69 _
      · refine own_via (T0.setTop (mkF m 52 #[.val (.int p0), .val (.int p1), .val (.int p2), .val (.int p3), .val (.int ag), .val (.int ((((p3).toUInt32 >>> ((1 : Int32) &&& 31).toUInt32).toInt32) &&& (3 : Int32))), .val (.int ((((p3).toUInt32 >>> ((3 : Int32) &&& 31).toUInt32).toInt32) &&& (3 : Int32))), .unset, .unset, .unset, .unset] [])) (fun t k => XS.icmpYes X0.here hx rfl (pc0 := 41) (pc' := 52) rfl (hb hby at_41) rfl (XT.ii_ne_t ht1) (by decide) (by decide) k) ?_
        refine own_via (T0.setTop (mkF m 54 #[.val (.int p0), .val (.int p1), .val (.int p2), .val (.int p3), .val (.int ag), .val (.int ((((p3).toUInt32 >>> ((1 : Int32) &&& 31).toUInt32).toInt32) &&& (3 : Int32))), .val (.int ((((p3).toUInt32 >>> ((3 : Int32) &&& 31).toUInt32).toInt32) &&& (3 : Int32))), .unset, .unset, .unset, .unset] [(.int ((((p3).toUInt32 >>> ((3 : Int32) &&& 31).toUInt32).toInt32) &&& (3 : Int32)))])) (fun t k => XS.iload X0.here hx rfl (hb hby at_52) rfl k) ?_
        refine own_via (T0.setTop (mkF m 55 #[.val (.int p0), .val (.int p1), .val (.int p2), .val (.int p3), .val (.int ag), .val (.int ((((p3).toUInt32 >>> ((1 : Int32) &&& 31).toUInt32).toInt32) &&& (3 : Int32))), .val (.int ((((p3).toUInt32 >>> ((3 : Int32) &&& 31).toUInt32).toInt32) &&& (3 : Int32))), .unset, .unset, .unset, .unset] [(.int (2 : Int32)), (.int ((((p3).toUInt32 >>> ((3 : Int32) &&& 31).toUInt32).toInt32) &&& (3 : Int32)))])) (fun t k => XS.iconst X0.here hx rfl (hb hby at_54) k) ?_
        by_cases ht2 : ((((p3).toUInt32 >>> ((3 : Int32) &&& 31).toUInt32).toInt32) &&& (3 : Int32)) = (2 : Int32)
        · refine own_via (T0.setTop (mkF m 58 #[.val (.int p0), .val (.int p1), .val (.int p2), .val (.int p3), .val (.int ag), .val (.int ((((p3).toUInt32 >>> ((1 : Int32) &&& 31).toUInt32).toInt32) &&& (3 : Int32))), .val (.int ((((p3).toUInt32 >>> ((3 : Int32) &&& 31).toUInt32).toInt32) &&& (3 : Int32))), .unset, .unset, .unset, .unset] [])) (fun t k => XS.icmpNo X0.here hx rfl (hb hby at_55) rfl (XT.ii_ne_f ht2) k) ?_
          refine own_via (T0.setTop (mkF m 59 #[.val (.int p0), .val (.int p1), .val (.int p2), .val (.int p3), .val (.int ag), .val (.int ((((p3).toUInt32 >>> ((1 : Int32) &&& 31).toUInt32).toInt32) &&& (3 : Int32))), .val (.int ((((p3).toUInt32 >>> ((3 : Int32) &&& 31).toUInt32).toInt32) &&& (3 : Int32))), .unset, .unset, .unset, .unset] [(.int p0)])) (fun t k => XS.iloadN X0.here hx rfl (hb hby at_58) rfl k) ?_
          refine own_via (T0.setTop (mkF m 60 #[.val (.int p0), .val (.int p1), .val (.int p2), .val (.int p3), .val (.int ag), .val (.int ((((p3).toUInt32 >>> ((1 : Int32) &&& 31).toUInt32).toInt32) &&& (3 : Int32))), .val (.int ((((p3).toUInt32 >>> ((3 : Int32) &&& 31).toUInt32).toInt32) &&& (3 : Int32))), .unset, .unset, .unset, .unset] [(.int (1 : Int32)), (.int p0)])) (fun t k => XS.iconst X0.here hx rfl (hb hby at_59) k) ?_
          refine own_via (T0.setTop (mkF m 61 #[.val (.int p0), .val (.int p1), .val (.int p2), .val (.int p3), .val (.int ag), .val (.int ((((p3).toUInt32 >>> ((1 : Int32) &&& 31).toUInt32).toInt32) &&& (3 : Int32))), .val (.int ((((p3).toUInt32 >>> ((3 : Int32) &&& 31).toUInt32).toInt32) &&& (3 : Int32))), .unset, .unset, .unset, .unset] [(.int (p0 - (1 : Int32)))])) (fun t k => XS.isub X0.here hx rfl (hb hby at_60) rfl k) ?_
          refine own_via (T0.setTop (mkF m 63 #[.val (.int p0), .val (.int p1), .val (.int p2), .val (.int p3), .val (.int ag), .val (.int ((((p3).toUInt32 >>> ((1 : Int32) &&& 31).toUInt32).toInt32) &&& (3 : Int32))), .val (.int ((((p3).toUInt32 >>> ((3 : Int32) &&& 31).toUInt32).toInt32) &&& (3 : Int32))), .val (.int (p0 - (1 : Int32))), .unset, .unset, .unset] [])) (fun t k => XS.istore X0.here hx rfl (hb hby at_61) rfl (l' := #[.val (.int p0), .val (.int p1), .val (.int p2), .val (.int p3), .val (.int ag), .val (.int ((((p3).toUInt32 >>> ((1 : Int32) &&& 31).toUInt32).toInt32) &&& (3 : Int32))), .val (.int ((((p3).toUInt32 >>> ((3 : Int32) &&& 31).toUInt32).toInt32) &&& (3 : Int32))), .val (.int (p0 - (1 : Int32))), .unset, .unset, .unset]) rfl k) ?_
          refine own_via (T0.setTop (mkF m 69 #[.val (.int p0), .val (.int p1), .val (.int p2), .val (.int p3), .val (.int ag), .val (.int ((((p3).toUInt32 >>> ((1 : Int32) &&& 31).toUInt32).toInt32) &&& (3 : Int32))), .val (.int ((((p3).toUInt32 >>> ((3 : Int32) &&& 31).toUInt32).toInt32) &&& (3 : Int32))), .val (.int (p0 - (1 : Int32))), .unset, .unset, .unset] [])) (fun t k => XS.goto X0.here hx rfl (pc0 := 63) (pc' := 69) rfl (hb hby at_63) (by decide) (by decide) k) ?_
          exact J69 _
        · refine own_via (T0.setTop (mkF m 66 #[.val (.int p0), .val (.int p1), .val (.int p2), .val (.int p3), .val (.int ag), .val (.int ((((p3).toUInt32 >>> ((1 : Int32) &&& 31).toUInt32).toInt32) &&& (3 : Int32))), .val (.int ((((p3).toUInt32 >>> ((3 : Int32) &&& 31).toUInt32).toInt32) &&& (3 : Int32))), .unset, .unset, .unset, .unset] [])) (fun t k => XS.icmpYes X0.here hx rfl (pc0 := 55) (pc' := 66) rfl (hb hby at_55) rfl (XT.ii_ne_t ht2) (by decide) (by decide) k) ?_
          refine own_via (T0.setTop (mkF m 67 #[.val (.int p0), .val (.int p1), .val (.int p2), .val (.int p3), .val (.int ag), .val (.int ((((p3).toUInt32 >>> ((1 : Int32) &&& 31).toUInt32).toInt32) &&& (3 : Int32))), .val (.int ((((p3).toUInt32 >>> ((3 : Int32) &&& 31).toUInt32).toInt32) &&& (3 : Int32))), .unset, .unset, .unset, .unset] [(.int p1)])) (fun t k => XS.iloadN X0.here hx rfl (hb hby at_66) rfl k) ?_
          refine own_via (T0.setTop (mkF m 69 #[.val (.int p0), .val (.int p1), .val (.int p2), .val (.int p3), .val (.int ag), .val (.int ((((p3).toUInt32 >>> ((1 : Int32) &&& 31).toUInt32).toInt32) &&& (3 : Int32))), .val (.int ((((p3).toUInt32 >>> ((3 : Int32) &&& 31).toUInt32).toInt32) &&& (3 : Int32))), .val (.int p1), .unset, .unset, .unset] [])) (fun t k => XS.istore X0.here hx rfl (hb hby at_67) rfl (l' := #[.val (.int p0), .val (.int p1), .val (.int p2), .val (.int p3), .val (.int ag), .val (.int ((((p3).toUInt32 >>> ((1 : Int32) &&& 31).toUInt32).toInt32) &&& (3 : Int32))), .val (.int ((((p3).toUInt32 >>> ((3 : Int32) &&& 31).toUInt32).toInt32) &&& (3 : Int32))), .val (.int p1), .unset, .unset, .unset]) rfl k) ?_
          exact J69 _
  by_cases hag : (p3 &&& (1 : Int32)) = 0
  · refine own_via (T0.setTop (mkF m 10 #[.val (.int p0), .val (.int p1), .val (.int p2), .val (.int p3), .unset, .unset, .unset, .unset, .unset, .unset, .unset] [])) (fun t k => XS.ifYes X0.here hx rfl (pc0 := 3) (pc' := 10) rfl (hb hby at_3) rfl (XT.i0_eq_t hag) (by decide) (by decide) k) ?_
    refine own_via (T0.setTop (mkF m 11 #[.val (.int p0), .val (.int p1), .val (.int p2), .val (.int p3), .unset, .unset, .unset, .unset, .unset, .unset, .unset] [(.int (0 : Int32))])) (fun t k => XS.iconst X0.here hx rfl (hb hby at_10) k) ?_
    refine own_via (T0.setTop (mkF m 13 #[.val (.int p0), .val (.int p1), .val (.int p2), .val (.int p3), .val (.int (0 : Int32)), .unset, .unset, .unset, .unset, .unset, .unset] [])) (fun t k => XS.istore X0.here hx rfl (hb hby at_11) rfl (l' := #[.val (.int p0), .val (.int p1), .val (.int p2), .val (.int p3), .val (.int (0 : Int32)), .unset, .unset, .unset, .unset, .unset, .unset]) rfl k) ?_
    exact J13 _
  · refine own_via (T0.setTop (mkF m 6 #[.val (.int p0), .val (.int p1), .val (.int p2), .val (.int p3), .unset, .unset, .unset, .unset, .unset, .unset, .unset] [])) (fun t k => XS.ifNo X0.here hx rfl (hb hby at_3) rfl (XT.i0_eq_f hag) k) ?_
    refine own_via (T0.setTop (mkF m 7 #[.val (.int p0), .val (.int p1), .val (.int p2), .val (.int p3), .unset, .unset, .unset, .unset, .unset, .unset, .unset] [(.int (1 : Int32))])) (fun t k => XS.iconst X0.here hx rfl (hb hby at_6) k) ?_
    refine own_via (T0.setTop (mkF m 11 #[.val (.int p0), .val (.int p1), .val (.int p2), .val (.int p3), .unset, .unset, .unset, .unset, .unset, .unset, .unset] [(.int (1 : Int32))])) (fun t k => XS.goto X0.here hx rfl (pc0 := 7) (pc' := 11) rfl (hb hby at_7) (by decide) (by decide) k) ?_
    refine own_via (T0.setTop (mkF m 13 #[.val (.int p0), .val (.int p1), .val (.int p2), .val (.int p3), .val (.int (1 : Int32)), .unset, .unset, .unset, .unset, .unset, .unset] [])) (fun t k => XS.istore X0.here hx rfl (hb hby at_11) rfl (l' := #[.val (.int p0), .val (.int p1), .val (.int p2), .val (.int p3), .val (.int (1 : Int32)), .unset, .unset, .unset, .unset, .unset, .unset]) rfl k) ?_
    exact J13 _
set_option maxRecDepth 65536 in
set_option maxHeartbeats 40000000 in
theorem comes_1 {Post : Tables → Env → Array Value → State → Outcome → State → Prop} (hpost : ∀ tb e args s v u, (limb_1_1.after args s (.returned v) u = true ∧ limb_1_2.after args s (.returned v) u = true ∧ True) → FrameEnd s (.returned v) u (Jvm.fieldLocs frame_1_writes args s ++ Jvm.arrayLocs frame_1_arrays args s ++ Jvm.staticLocs frame_1_statics s) 24 128 → Post tb e args s (.returned v) u) :
    ArmFor flags0 classFile x code maxLocals ret World_1 tables_1 room_1 Calls_1 rest_1 Pre_1 Post := by
  intro l hfl _ _ p e ha hc hk s m args below hf hA hF happ hP
  obtain ⟨hcalls, hrest, hpre⟩ := hP
  obtain ⟨-, -, -, hnamed, -, -, -, hat⟩ := (Spec.applies_iff hf).mp happ
  obtain ⟨hg, hn⟩ := and_e (Cond.before_iff.mp (show (Jvm.Cond.and given_1 narrow_1).before args s = true from hpre))
  obtain ⟨h1, h2⟩ := and_e hg
  obtain ⟨h3, h4⟩ := and_e h2
  obtain ⟨h5, h6⟩ := and_e h4
  obtain ⟨h7, h8⟩ := and_e h6
  obtain ⟨w0, w1, w2, w3, rfl⟩ : ∃ w0 w1 w2 w3 : Value, args = #[w0, w1, w2, w3] := by
    have hs : args.size = 4 := by simpa [Cond.value, given_1] using h1
    obtain ⟨L⟩ := args
    match L, hs with
    | [w0, w1, w2, w3], _ => exact ⟨w0, w1, w2, w3, rfl⟩
  have hw := fun d (hd : d ∈ tables_1) => atoms_spec (ws := Jvm.Cond.code x code maxLocals ret :: tables_1) hat d (List.mem_cons_of_mem _ hd)
  obtain ⟨hsets, hown0⟩ := atoms_of _ (rest_1_c_eq ▸ (show rest_1_c.before _ s = true from hrest))
  have n5 := not_v (Cond.before_iff.mp (hsets _ (List.mem_of_getElem? (i := 2) rfl)))
  obtain ⟨i0, e0⟩ := is_v h3
  obtain rfl : w0 = (.int i0) := Option.some.inj e0
  obtain ⟨i1, e1⟩ := is_v h5
  obtain rfl : w1 = (.int i1) := Option.some.inj e1
  obtain ⟨i2, e2⟩ := is_v h7
  obtain rfl : w2 = (.int i2) := Option.some.inj e2
  obtain ⟨i3, e3⟩ := is_v h8
  obtain rfl : w3 = (.int i3) := Option.some.inj e3
  obtain ⟨i11, e10⟩ := is_v (Cond.before_iff.mp (hsets _ (List.mem_of_getElem? (i := 1) rfl)))
  have S12 : Sta s s.heap "java/lang/String" "COMPACT_STRINGS" "Z" (.int i11) := Sta.start e10 (Or.inl (hsets _ (List.mem_of_getElem? (i := 0) rfl)))
  have c17 : ¬ (i11 = (0 : Int32)) := gotF (Cond.eq_ints e10 (Term.int_eval (0))) n5
  obtain ⟨hn1, hn2⟩ := and_e hn
  obtain ⟨nm, e20⟩ := arr_v hn1
  have S20 : Sta s s.heap "com/example/weaverbird/weaverbird/sql/SqlText" "NO_MARKERS" "[I" (.ref nm) := Sta.start e20 (Or.inr ⟨hw _ (List.mem_of_getElem? (i := 71) rfl), hw _ (List.mem_of_getElem? (i := 76) rfl)⟩)
  obtain ⟨dc, e21⟩ := arr_v (Cond.before_iff.mp (hsets _ (List.mem_of_getElem? (i := 15) rfl)))
  have S21 : Sta s s.heap "java/util/ArrayList" "DEFAULTCAPACITY_EMPTY_ELEMENTDATA" "[Ljava/lang/Object;" (.ref dc) := Sta.start e21 (Or.inr ⟨hw _ (List.mem_of_getElem? (i := 90) rfl), hsets _ (List.mem_of_getElem? (i := 11) rfl)⟩)
  obtain ⟨n, o, h1, h2, h3, _, L, rfl, ⟨rfl, N⟩, hq⟩ := rm_law l s _ hw i0 i1 i2 i3 i11 nm dc s.heap s.heap.size (Nat.le_refl _) S12 S20 S21 (Old.start s) c17 tables_1 p e ha hc hk s m _ below hf ((Spec.applies_iff_loose hf).mp happ).1 ⟨rfl, State.Warmed39.refl s, rfl⟩ trivial
  refine ⟨n, _, h1, h2, h3, hpost _ _ _ _ _ _ ⟨Cond.after_iff.mpr rfl, Cond.after_iff.mpr (eq_i res_at (Term.int_eval (1)) rfl), trivial⟩ ⟨hq.1, hq.2.1, (hq.2.2.sift fun y hy => Or.inr (N y hy)).mono (by decide) (by decide)⟩⟩
theorem main_1_1 : Claimed_1_1 := comes_1 fun _ _ _ _ _ _ h hF => ⟨h.1, hF⟩
theorem main_1_2 : Claimed_1_2 := comes_1 fun _ _ _ _ _ _ h hF => ⟨h.2.1, hF⟩

end Jvm.Pilot.@@N@@
namespace Jvm.Pilot.@@N@@
open Jvm Jvm.ClassFile Sem Op Lib Jvm.Free Jvm.Stand Jvm.Pilot.@@N@@.Jvm.D
/-! MADE BY PROGRAM (witnessworld.py) out of the Statement's table words and the real class files: 30 classes; the members and pool entries that the words name. The judged class is class 1, her method 1. -/
namespace start1
open Jvm.ClassFile
def u (s : String) : CpInfo := .utf8 (stringToUtf16 s)
/-- a pool by its gaps: so many unusable entries, then the entry; so many at the end -/
def gap : Nat → List CpInfo → List CpInfo
  | 0, r => r
  | n + 1, r => .unusable :: gap n r
def poolList (es : List (Nat × CpInfo)) (last : Nat) : List CpInfo := es.foldr (fun e r => gap e.1 (e.2 :: r)) (gap last [])
def pool (es : List (Nat × CpInfo)) (last : Nat) : Array CpInfo := ⟨poolList es last⟩
def fileOf (pool : Array CpInfo) (this : Nat) (attrs : Array Attribute := #[]) (ms : Array MethodInfo := #[]) (fl : Nat := 33) (sup : Nat := 0) (ifs : Array Nat := #[]) (fds : Array FieldInfo := #[]) : ClassFile where
  minorVersion := 0
  majorVersion := 65
  constantPool := pool
  accessFlags := fl
  thisClass := this
  superClass := sup
  interfaces := ifs
  fields := fds
  methods := ms
  attributes := attrs
def plain (name : String) (sup : Option ClassId) : Class where
  name := name
  kind := .ordinary
  loader := none
  accessFlags := 33
  super := sup
  interfaces := #[]
  cf := none
  fields := #[]
  methods := #[]
  instanceTypes := #[]
  staticTypes := #[]
  resolved := #[]
  callSites := []
  init := .initialized
  statics := none
  mirror := none

def pool0 : Array CpInfo := pool [(5, u "<init>"), (0, u "()V"), (1, .class_ 10), (1, u "java/lang/Object")] 113

def k0c0 : Code := { maxStack := 0, maxLocals := 1, code := object_method_1_code, exceptionTable := #[], attributes := #[] }
def k0m0 : Method := { name := "<init>", desc := "()V", sig := { parameters := [], returnType := none }, accessFlags := 1, code := some k0c0 }
/-- java/lang/Object -/
def k0 : Class := { plain "java/lang/Object" none with
  accessFlags := 33
  interfaces := #[]
  cf := some (fileOf pool0 8 #[] #[{ accessFlags := 1, nameIndex := 5, descriptorIndex := 6, attributes := #[] }] 33 0 #[] #[])
  fields := #[]
  methods := #[k0m0]
  instanceTypes := #[]
  staticTypes := #[]
  resolved := Array.replicate 124 none
  statics := none }

def pool1 : Array CpInfo := pool [(2, .class_ 4), (0, .nameAndType 5 6), (0, u "java/lang/Object"), (0, u "<init>"), (0, u "()V"), (0, .class_ 8), (0, u "java/lang/String"), (0, .methodref 7 10), (0, .nameAndType 5 11), (0, u "([C)V"), (0, .methodref 13 14), (0, .class_ 15), (0, .nameAndType 16 17), (0, u "com/example/weaverbird/weaverbird/sql/SqlText"), (0, u "of"), (0, u "(Ljava/lang/String;)Lcom/example/weaverbird/weaverbird/sql/SqlText;"), (0, .class_ 19), (0, u "com/example/weaverbird/weaverbird/sql/ItemColumn"), (0, .methodref 18 21), (0, .nameAndType 5 22), (0, u "(Lcom/example/weaverbird/weaverbird/sql/SqlText;Ljava/lang/String;IZ)V"), (0, .methodref 18 24), (0, .nameAndType 25 26), (0, u "isEmpty"), (0, u "()Z"), (0, .class_ 28), (0, u "java/util/ArrayList"), (0, .methodref 27 3), (0, .methodref 18 31), (0, .nameAndType 32 33), (0, u "rank"), (0, u "(Ljava/util/List;)Lcom/example/weaverbird/weaverbird/sql/ItemColumn;"), (0, .methodref 18 35), (0, .nameAndType 5 36), (0, u "(IIIZ)V"), (0, .methodref 18 38), (0, .nameAndType 39 40), (0, u "from"), (0, u "()I"), (0, .methodref 18 42), (0, .nameAndType 43 40), (0, u "to"), (0, .class_ 45), (0, u "com/example/weaverbird/weaverbird/sql/ItemColumnIsEmptyPinLaw"), (2, u "law"), (0, u "(IIII)Z")] 5

def k1m0 : Method := { name := "<init>", desc := "()V", sig := { parameters := [], returnType := none }, accessFlags := 1, code := none }
def k1c1 : Code := { maxStack := 6, maxLocals := 11, code := code, exceptionTable := #[], attributes := #[] }
def k1m1 : Method := { name := "law", desc := "(IIII)Z", sig := { parameters := [.int, .int, .int, .int], returnType := some .boolean }, accessFlags := 9, code := some k1c1 }
/-- com/example/weaverbird/weaverbird/sql/ItemColumnIsEmptyPinLaw -/
def k1 : Class := { plain "com/example/weaverbird/weaverbird/sql/ItemColumnIsEmptyPinLaw" (some 0) with
  accessFlags := 49
  interfaces := #[]
  cf := some (fileOf pool1 44 #[] #[{ accessFlags := 1, nameIndex := 5, descriptorIndex := 6, attributes := #[] }, { accessFlags := 9, nameIndex := 48, descriptorIndex := 49, attributes := #[] }] 49 2 #[] #[])
  fields := #[]
  methods := #[k1m0, k1m1]
  instanceTypes := #[]
  staticTypes := #[]
  resolved := Array.replicate 55 none
  statics := none }

def pool2 : Array CpInfo := pool [(1, .methodref 2 3), (0, .class_ 4), (0, .nameAndType 5 6), (0, u "com/example/weaverbird/weaverbird/sql/ItemColumn"), (0, u "<init>"), (0, u "(IILcom/example/weaverbird/weaverbird/sql/SqlText;Ljava/lang/String;IZLjava/util/List;)V"), (0, .methodref 8 9), (0, .class_ 10), (0, .nameAndType 5 11), (0, u "java/lang/Object"), (0, u "()V"), (0, .fieldref 2 13), (0, .nameAndType 14 15), (0, u "from"), (0, u "I"), (0, .fieldref 2 17), (0, .nameAndType 18 15), (0, u "to"), (0, .fieldref 2 20), (0, .nameAndType 21 22), (0, u "written"), (0, u "Lcom/example/weaverbird/weaverbird/sql/SqlText;"), (0, .fieldref 2 24), (0, .nameAndType 25 26), (0, u "label"), (0, u "Ljava/lang/String;"), (0, .fieldref 2 28), (0, .nameAndType 29 15), (0, u "parameter"), (0, .fieldref 2 31), (0, .nameAndType 32 33), (0, u "aggregateArgument"), (0, u "Z"), (0, .fieldref 2 35), (0, .nameAndType 36 37), (0, u "rankKeys"), (0, u "Ljava/util/List;"), (2, u "(IIIZ)V"), (2, u "(Lcom/example/weaverbird/weaverbird/sql/SqlText;Ljava/lang/String;IZ)V"), (1, u "rank"), (0, u "(Ljava/util/List;)Lcom/example/weaverbird/weaverbird/sql/ItemColumn;"), (1, u "()I"), (0, u "isEmpty"), (0, u "()Z")] 7

def k2c0 : Code := { maxStack := 8, maxLocals := 5, code := prog_110_method_1_code, exceptionTable := #[], attributes := #[] }
def k2m0 : Method := { name := "<init>", desc := "(IIIZ)V", sig := { parameters := [.int, .int, .int, .boolean], returnType := none }, accessFlags := 0, code := some k2c0 }
def k2c1 : Code := { maxStack := 8, maxLocals := 5, code := prog_110_method_2_code, exceptionTable := #[], attributes := #[] }
def k2m1 : Method := { name := "<init>", desc := "(Lcom/example/weaverbird/weaverbird/sql/SqlText;Ljava/lang/String;IZ)V", sig := { parameters := [(.object "com/example/weaverbird/weaverbird/sql/SqlText"), (.object "java/lang/String"), .int, .boolean], returnType := none }, accessFlags := 0, code := some k2c1 }
def k2c2 : Code := { maxStack := 2, maxLocals := 8, code := prog_110_method_3_code, exceptionTable := #[], attributes := #[] }
def k2m2 : Method := { name := "<init>", desc := "(IILcom/example/weaverbird/weaverbird/sql/SqlText;Ljava/lang/String;IZLjava/util/List;)V", sig := { parameters := [.int, .int, (.object "com/example/weaverbird/weaverbird/sql/SqlText"), (.object "java/lang/String"), .int, .boolean, (.object "java/util/List")], returnType := none }, accessFlags := 2, code := some k2c2 }
def k2c3 : Code := { maxStack := 9, maxLocals := 1, code := prog_110_method_4_code, exceptionTable := #[], attributes := #[] }
def k2m3 : Method := { name := "rank", desc := "(Ljava/util/List;)Lcom/example/weaverbird/weaverbird/sql/ItemColumn;", sig := { parameters := [(.object "java/util/List")], returnType := some (.object "com/example/weaverbird/weaverbird/sql/ItemColumn") }, accessFlags := 8, code := some k2c3 }
def k2c4 : Code := { maxStack := 1, maxLocals := 1, code := prog_110_method_5_code, exceptionTable := #[], attributes := #[] }
def k2m4 : Method := { name := "from", desc := "()I", sig := { parameters := [], returnType := some .int }, accessFlags := 0, code := some k2c4 }
def k2c5 : Code := { maxStack := 1, maxLocals := 1, code := prog_110_method_6_code, exceptionTable := #[], attributes := #[] }
def k2m5 : Method := { name := "to", desc := "()I", sig := { parameters := [], returnType := some .int }, accessFlags := 0, code := some k2c5 }
def k2c6 : Code := { maxStack := 2, maxLocals := 1, code := prog_110_method_7_code, exceptionTable := #[], attributes := #[] }
def k2m6 : Method := { name := "isEmpty", desc := "()Z", sig := { parameters := [], returnType := some .boolean }, accessFlags := 0, code := some k2c6 }
/-- com/example/weaverbird/weaverbird/sql/ItemColumn -/
def k2 : Class := { plain "com/example/weaverbird/weaverbird/sql/ItemColumn" (some 0) with
  accessFlags := 48
  interfaces := #[]
  cf := some (fileOf pool2 2 #[] #[{ accessFlags := 0, nameIndex := 5, descriptorIndex := 40, attributes := #[] }, { accessFlags := 0, nameIndex := 5, descriptorIndex := 43, attributes := #[] }, { accessFlags := 2, nameIndex := 5, descriptorIndex := 6, attributes := #[] }, { accessFlags := 8, nameIndex := 45, descriptorIndex := 46, attributes := #[] }, { accessFlags := 0, nameIndex := 14, descriptorIndex := 48, attributes := #[] }, { accessFlags := 0, nameIndex := 18, descriptorIndex := 48, attributes := #[] }, { accessFlags := 0, nameIndex := 49, descriptorIndex := 50, attributes := #[] }] 48 8 #[] #[{ accessFlags := 18, nameIndex := 14, descriptorIndex := 15, attributes := #[] }, { accessFlags := 18, nameIndex := 18, descriptorIndex := 15, attributes := #[] }, { accessFlags := 18, nameIndex := 21, descriptorIndex := 22, attributes := #[] }, { accessFlags := 18, nameIndex := 25, descriptorIndex := 26, attributes := #[] }, { accessFlags := 18, nameIndex := 29, descriptorIndex := 15, attributes := #[] }, { accessFlags := 18, nameIndex := 32, descriptorIndex := 33, attributes := #[] }, { accessFlags := 18, nameIndex := 36, descriptorIndex := 37, attributes := #[] }])
  fields := #[{ name := "from", type := .int, accessFlags := 18, slot := 0, constantValue := 0 }, { name := "to", type := .int, accessFlags := 18, slot := 1, constantValue := 0 }, { name := "written", type := (.object "com/example/weaverbird/weaverbird/sql/SqlText"), accessFlags := 18, slot := 2, constantValue := 0 }, { name := "label", type := (.object "java/lang/String"), accessFlags := 18, slot := 3, constantValue := 0 }, { name := "parameter", type := .int, accessFlags := 18, slot := 4, constantValue := 0 }, { name := "aggregateArgument", type := .boolean, accessFlags := 18, slot := 5, constantValue := 0 }, { name := "rankKeys", type := (.object "java/util/List"), accessFlags := 18, slot := 6, constantValue := 0 }]
  methods := #[k2m0, k2m1, k2m2, k2m3, k2m4, k2m5, k2m6]
  instanceTypes := #[.int, .int, (.object "com/example/weaverbird/weaverbird/sql/SqlText"), (.object "java/lang/String"), .int, .boolean, (.object "java/util/List")]
  staticTypes := #[]
  resolved := Array.replicate 58 none
  statics := none }

def pool3 : Array CpInfo := pool [(1, .class_ 2), (0, u "java/io/Serializable"), (0, .class_ 4), (0, u "java/lang/Object")] 2

/-- java/io/Serializable -/
def k3 : Class := { plain "java/io/Serializable" (some 0) with
  accessFlags := 1537
  interfaces := #[]
  cf := some (fileOf pool3 1 #[] #[] 1537 3 #[] #[])
  fields := #[]
  methods := #[]
  instanceTypes := #[]
  staticTypes := #[]
  resolved := Array.replicate 7 none
  statics := none }

def pool4 : Array CpInfo := pool [(1, .class_ 2), (0, u "java/lang/Comparable"), (0, .class_ 4), (0, u "java/lang/Object")] 7

/-- java/lang/Comparable -/
def k4 : Class := { plain "java/lang/Comparable" (some 0) with
  accessFlags := 1537
  interfaces := #[]
  cf := some (fileOf pool4 1 #[] #[] 1537 3 #[] #[])
  fields := #[]
  methods := #[]
  instanceTypes := #[]
  staticTypes := #[]
  resolved := Array.replicate 12 none
  statics := none }

def pool5 : Array CpInfo := pool [(2, .class_ 4), (1, u "java/lang/CharSequence"), (42, .class_ 48), (0, u "java/lang/CharSequence$1CodePointIterator"), (10, .class_ 60), (0, u "java/lang/CharSequence$1CharIterator"), (5, .class_ 67), (0, u "java/lang/Object")] 63

/-- java/lang/CharSequence -/
def k5 : Class := { plain "java/lang/CharSequence" (some 0) with
  accessFlags := 1537
  interfaces := #[]
  cf := some (fileOf pool5 2 #[.nestMembers #[47, 59]] #[] 1537 66 #[] #[])
  fields := #[]
  methods := #[]
  instanceTypes := #[]
  staticTypes := #[]
  resolved := Array.replicate 131 none
  statics := none }

def pool6 : Array CpInfo := pool [(1, .class_ 2), (0, u "java/lang/constant/Constable"), (0, .class_ 4), (0, u "java/lang/Object")] 6

/-- java/lang/constant/Constable -/
def k6 : Class := { plain "java/lang/constant/Constable" (some 0) with
  accessFlags := 1537
  interfaces := #[]
  cf := some (fileOf pool6 1 #[] #[] 1537 3 #[] #[])
  fields := #[]
  methods := #[]
  instanceTypes := #[]
  staticTypes := #[]
  resolved := Array.replicate 11 none
  statics := none }

def pool7 : Array CpInfo := pool [(1, .class_ 2), (0, u "java/lang/constant/ConstantDesc"), (0, .class_ 4), (0, u "java/lang/Object")] 32

/-- java/lang/constant/ConstantDesc -/
def k7 : Class := { plain "java/lang/constant/ConstantDesc" (some 0) with
  accessFlags := 1537
  interfaces := #[]
  cf := some (fileOf pool7 1 #[] #[] 1537 3 #[] #[])
  fields := #[]
  methods := #[]
  instanceTypes := #[]
  staticTypes := #[]
  resolved := Array.replicate 37 none
  statics := none }

def pool8 : Array CpInfo := pool [(1, .methodref 2 3), (0, .class_ 4), (0, .nameAndType 5 6), (0, u "java/lang/Object"), (0, u "<init>"), (0, u "()V"), (2, .fieldref 10 11), (0, .class_ 12), (0, .nameAndType 13 14), (0, u "java/lang/String"), (0, u "value"), (0, u "[B"), (0, .fieldref 10 16), (0, .nameAndType 17 18), (0, u "coder"), (0, u "B"), (2, u "hash"), (0, u "I"), (2, u "hashIsZero"), (0, u "Z"), (0, .methodref 10 28), (0, .nameAndType 5 29), (0, u "([CIILjava/lang/Void;)V"), (8, .fieldref 10 39), (0, .nameAndType 40 26), (0, u "COMPACT_STRINGS"), (1, .class_ 44), (1, u "java/lang/StringUTF16"), (0, u "compress"), (1, .methodref 42 48), (0, .nameAndType 49 50), (0, u "coderFromArrayLen"), (0, u "([BI)B"), (126, .methodref 42 178), (0, .nameAndType 45 179), (0, u "([CII)[B"), (395, .class_ 576), (0, u "java/lang/CharSequence"), (22, u "CASE_INSENSITIVE_ORDER"), (0, u "Ljava/util/Comparator;"), (409, u "([C)V"), (90, u "serialPersistentFields"), (0, u "[Ljava/io/ObjectStreamField;"), (0, .class_ 1104), (0, u "java/lang/String$CaseInsensitiveComparator"), (1, .class_ 1107), (0, u "java/io/Serializable"), (0, .class_ 1109), (0, u "java/lang/Comparable"), (0, .class_ 1111), (0, u "java/lang/constant/Constable"), (0, .class_ 1113), (0, u "java/lang/constant/ConstantDesc"), (2, u "serialVersionUID"), (0, u "J"), (3, u "REPL"), (0, u "C"), (2, u "LATIN1"), (1, u "UTF16")] 323

def k8m0 : Method := { name := "<init>", desc := "()V", sig := { parameters := [], returnType := none }, accessFlags := 1, code := none }
def k8c1 : Code := { maxStack := 5, maxLocals := 2, code := jdk_42_method_3_code, exceptionTable := #[], attributes := #[] }
def k8m1 : Method := { name := "<init>", desc := "([C)V", sig := { parameters := [(.array .char)], returnType := none }, accessFlags := 1, code := some k8c1 }
def k8c2 : Code := { maxStack := 4, maxLocals := 6, code := jdk_42_method_149_code, exceptionTable := #[], attributes := #[] }
def k8m2 : Method := { name := "<init>", desc := "([CIILjava/lang/Void;)V", sig := { parameters := [(.array .char), .int, .int, (.object "java/lang/Void")], returnType := none }, accessFlags := 2, code := some k8c2 }
/-- java/lang/String -/
def k8 : Class := { plain "java/lang/String" (some 0) with
  accessFlags := 49
  interfaces := #[3, 4, 5, 6, 7]
  cf := some (fileOf pool8 10 #[.nestMembers #[1103]] #[{ accessFlags := 1, nameIndex := 5, descriptorIndex := 6, attributes := #[] }, { accessFlags := 1, nameIndex := 5, descriptorIndex := 1010, attributes := #[] }, { accessFlags := 2, nameIndex := 5, descriptorIndex := 29, attributes := #[] }] 49 2 #[1106, 1108, 575, 1110, 1112] #[{ accessFlags := 18, nameIndex := 13, descriptorIndex := 14, attributes := #[] }, { accessFlags := 18, nameIndex := 17, descriptorIndex := 18, attributes := #[] }, { accessFlags := 2, nameIndex := 21, descriptorIndex := 22, attributes := #[] }, { accessFlags := 2, nameIndex := 25, descriptorIndex := 26, attributes := #[] }, { accessFlags := 26, nameIndex := 1116, descriptorIndex := 1117, attributes := #[] }, { accessFlags := 24, nameIndex := 40, descriptorIndex := 26, attributes := #[] }, { accessFlags := 26, nameIndex := 1101, descriptorIndex := 1102, attributes := #[] }, { accessFlags := 26, nameIndex := 1121, descriptorIndex := 1122, attributes := #[] }, { accessFlags := 25, nameIndex := 599, descriptorIndex := 600, attributes := #[] }, { accessFlags := 24, nameIndex := 1125, descriptorIndex := 18, attributes := #[] }, { accessFlags := 24, nameIndex := 1127, descriptorIndex := 18, attributes := #[] }])
  fields := #[{ name := "value", type := (.array .byte), accessFlags := 18, slot := 0, constantValue := 0 }, { name := "coder", type := .byte, accessFlags := 18, slot := 1, constantValue := 0 }, { name := "hash", type := .int, accessFlags := 2, slot := 2, constantValue := 0 }, { name := "hashIsZero", type := .boolean, accessFlags := 2, slot := 3, constantValue := 0 }, { name := "serialVersionUID", type := .long, accessFlags := 26, slot := 0, constantValue := 0 }, { name := "COMPACT_STRINGS", type := .boolean, accessFlags := 24, slot := 1, constantValue := 0 }, { name := "serialPersistentFields", type := (.array (.object "java/io/ObjectStreamField")), accessFlags := 26, slot := 2, constantValue := 0 }, { name := "REPL", type := .char, accessFlags := 26, slot := 3, constantValue := 0 }, { name := "CASE_INSENSITIVE_ORDER", type := (.object "java/util/Comparator"), accessFlags := 25, slot := 4, constantValue := 0 }, { name := "LATIN1", type := .byte, accessFlags := 24, slot := 5, constantValue := 0 }, { name := "UTF16", type := .byte, accessFlags := 24, slot := 6, constantValue := 0 }]
  methods := #[k8m0, k8m1, k8m2]
  instanceTypes := #[(.array .byte), .byte, .int, .boolean]
  staticTypes := #[.long, .boolean, (.array (.object "java/io/ObjectStreamField")), .char, (.object "java/util/Comparator"), .byte, .byte]
  resolved := Array.replicate 1451 none
  statics := some 0 }

def pool9 : Array CpInfo := pool [(6, .class_ 8), (1, u "java/lang/Object"), (0, u "<init>"), (0, u "()V"), (1, .class_ 14), (1, u "java/lang/StringUTF16"), (31, u "$assertionsDisabled"), (0, u "Z"), (13, u "HI_BYTE_SHIFT"), (0, u "I"), (2, u "LO_BYTE_SHIFT"), (49, .methodref 12 116), (0, .nameAndType 117 118), (0, u "compress"), (0, u "([CI[BII)I"), (3, u "([CII)[B"), (138, u "coderFromArrayLen"), (0, u "([BI)B"), (106, .class_ 371), (1, u "java/lang/StringUTF16$LinesSpliterator"), (58, u "MAX_LENGTH"), (196, .class_ 628), (0, u "java/lang/StringUTF16$CodePointsSpliterator"), (0, .class_ 630), (0, u "java/lang/StringUTF16$CharsSpliterator")] 4

def k9m0 : Method := { name := "<init>", desc := "()V", sig := { parameters := [], returnType := none }, accessFlags := 0, code := none }
def k9c1 : Code := { maxStack := 2, maxLocals := 2, code := jdk_52_method_15_code, exceptionTable := #[], attributes := #[] }
def k9m1 : Method := { name := "coderFromArrayLen", desc := "([BI)B", sig := { parameters := [(.array .byte), .int], returnType := some .byte }, accessFlags := 8, code := some k9c1 }
def k9c2 : Code := { maxStack := 5, maxLocals := 6, code := jdk_52_method_16_code, exceptionTable := #[], attributes := #[] }
def k9m2 : Method := { name := "compress", desc := "([CII)[B", sig := { parameters := [(.array .char), .int, .int], returnType := some (.array .byte) }, accessFlags := 9, code := some k9c2 }
def k9c3 : Code := { maxStack := 3, maxLocals := 7, code := jdk_52_method_21_code, exceptionTable := #[], attributes := #[] }
def k9m3 : Method := { name := "compress", desc := "([CI[BII)I", sig := { parameters := [(.array .char), .int, (.array .byte), .int, .int], returnType := some .int }, accessFlags := 9, code := some k9c3 }
/-- java/lang/StringUTF16 -/
def k9 : Class := { plain "java/lang/StringUTF16" (some 0) with
  accessFlags := 48
  interfaces := #[]
  cf := some (fileOf pool9 12 #[.nestMembers #[627, 629, 369]] #[{ accessFlags := 0, nameIndex := 9, descriptorIndex := 10, attributes := #[] }, { accessFlags := 8, nameIndex := 261, descriptorIndex := 262, attributes := #[] }, { accessFlags := 9, nameIndex := 117, descriptorIndex := 122, attributes := #[] }, { accessFlags := 9, nameIndex := 117, descriptorIndex := 118, attributes := #[] }] 48 6 #[] #[{ accessFlags := 26, nameIndex := 61, descriptorIndex := 62, attributes := #[] }, { accessFlags := 26, nameIndex := 65, descriptorIndex := 62, attributes := #[] }, { accessFlags := 24, nameIndex := 430, descriptorIndex := 62, attributes := #[] }, { accessFlags := 4120, nameIndex := 46, descriptorIndex := 47, attributes := #[] }])
  fields := #[{ name := "HI_BYTE_SHIFT", type := .int, accessFlags := 26, slot := 0, constantValue := 0 }, { name := "LO_BYTE_SHIFT", type := .int, accessFlags := 26, slot := 1, constantValue := 0 }, { name := "MAX_LENGTH", type := .int, accessFlags := 24, slot := 2, constantValue := 0 }, { name := "$assertionsDisabled", type := .boolean, accessFlags := 4120, slot := 3, constantValue := 0 }]
  methods := #[k9m0, k9m1, k9m2, k9m3]
  instanceTypes := #[]
  staticTypes := #[.int, .int, .int, .boolean]
  resolved := Array.replicate 635 none
  statics := none }

def pool10 : Array CpInfo := pool [(1, .methodref 2 3), (0, .class_ 4), (0, .nameAndType 5 6), (0, u "java/lang/Object"), (0, u "<init>"), (0, u "()V"), (0, .fieldref 8 9), (0, .class_ 10), (0, .nameAndType 11 12), (0, u "com/example/weaverbird/weaverbird/sql/SqlText"), (0, u "text"), (0, u "Ljava/lang/String;"), (0, .fieldref 8 14), (0, .nameAndType 15 16), (0, u "parameters"), (0, u "[I"), (0, .fieldref 8 18), (0, .nameAndType 19 16), (0, u "NO_MARKERS"), (0, .methodref 8 21), (0, .nameAndType 5 22), (0, u "(Ljava/lang/String;[I)V"), (2, .class_ 26), (0, u "com/example/weaverbird/weaverbird/sql/SqlText$Builder"), (64, u "of"), (0, u "(Ljava/lang/String;)Lcom/example/weaverbird/weaverbird/sql/SqlText;")] 21

def k10c0 : Code := { maxStack := 2, maxLocals := 3, code := prog_136_method_1_code, exceptionTable := #[], attributes := #[] }
def k10m0 : Method := { name := "<init>", desc := "(Ljava/lang/String;[I)V", sig := { parameters := [(.object "java/lang/String"), (.array .int)], returnType := none }, accessFlags := 2, code := some k10c0 }
def k10c1 : Code := { maxStack := 4, maxLocals := 1, code := prog_136_method_2_code, exceptionTable := #[], attributes := #[] }
def k10m1 : Method := { name := "of", desc := "(Ljava/lang/String;)Lcom/example/weaverbird/weaverbird/sql/SqlText;", sig := { parameters := [(.object "java/lang/String")], returnType := some (.object "com/example/weaverbird/weaverbird/sql/SqlText") }, accessFlags := 8, code := some k10c1 }
/-- com/example/weaverbird/weaverbird/sql/SqlText -/
def k10 : Class := { plain "com/example/weaverbird/weaverbird/sql/SqlText" (some 0) with
  accessFlags := 49
  interfaces := #[]
  cf := some (fileOf pool10 8 #[.nestMembers #[25]] #[{ accessFlags := 2, nameIndex := 5, descriptorIndex := 22, attributes := #[] }, { accessFlags := 8, nameIndex := 91, descriptorIndex := 92, attributes := #[] }] 49 2 #[] #[{ accessFlags := 26, nameIndex := 19, descriptorIndex := 16, attributes := #[] }, { accessFlags := 18, nameIndex := 11, descriptorIndex := 12, attributes := #[] }, { accessFlags := 18, nameIndex := 15, descriptorIndex := 16, attributes := #[] }])
  fields := #[{ name := "NO_MARKERS", type := (.array .int), accessFlags := 26, slot := 0, constantValue := 0 }, { name := "text", type := (.object "java/lang/String"), accessFlags := 18, slot := 0, constantValue := 0 }, { name := "parameters", type := (.array .int), accessFlags := 18, slot := 1, constantValue := 0 }]
  methods := #[k10m0, k10m1]
  instanceTypes := #[(.object "java/lang/String"), (.array .int)]
  staticTypes := #[(.array .int)]
  resolved := Array.replicate 114 none
  statics := some 1 }

def pool11 : Array CpInfo := pool [(8, .class_ 10), (1, u "java/lang/Iterable"), (24, .class_ 36), (0, u "java/lang/Object")] 25

/-- java/lang/Iterable -/
def k11 : Class := { plain "java/lang/Iterable" (some 0) with
  accessFlags := 1537
  interfaces := #[]
  cf := some (fileOf pool11 8 #[] #[] 1537 35 #[] #[])
  fields := #[]
  methods := #[]
  instanceTypes := #[]
  staticTypes := #[]
  resolved := Array.replicate 62 none
  statics := none }

def pool12 : Array CpInfo := pool [(10, .class_ 12), (1, u "java/util/Collection"), (47, .class_ 61), (0, u "java/lang/Object"), (0, .class_ 63), (0, u "java/lang/Iterable")] 51

/-- java/util/Collection -/
def k12 : Class := { plain "java/util/Collection" (some 0) with
  accessFlags := 1537
  interfaces := #[11]
  cf := some (fileOf pool12 10 #[] #[] 1537 60 #[62] #[])
  fields := #[]
  methods := #[]
  instanceTypes := #[]
  staticTypes := #[]
  resolved := Array.replicate 115 none
  statics := none }

def pool13 : Array CpInfo := pool [(1, .methodref 2 3), (0, .class_ 4), (0, .nameAndType 5 6), (0, u "java/lang/Object"), (0, u "<init>"), (0, u "()V"), (1, .class_ 10), (1, u "java/util/AbstractCollection"), (66, .class_ 78), (0, u "java/util/Collection")] 81

def k13c0 : Code := { maxStack := 1, maxLocals := 1, code := jdk_22_method_1_code, exceptionTable := #[], attributes := #[] }
def k13m0 : Method := { name := "<init>", desc := "()V", sig := { parameters := [], returnType := none }, accessFlags := 4, code := some k13c0 }
/-- java/util/AbstractCollection -/
def k13 : Class := { plain "java/util/AbstractCollection" (some 0) with
  accessFlags := 1057
  interfaces := #[12]
  cf := some (fileOf pool13 8 #[] #[{ accessFlags := 4, nameIndex := 5, descriptorIndex := 6, attributes := #[] }] 1057 2 #[77] #[])
  fields := #[]
  methods := #[k13m0]
  instanceTypes := #[]
  staticTypes := #[]
  resolved := Array.replicate 160 none
  statics := none }

def pool14 : Array CpInfo := pool [(8, .class_ 10), (1, u "java/util/SequencedCollection"), (15, .class_ 27), (0, u "java/lang/Object"), (0, .class_ 29), (0, u "java/util/Collection")] 27

/-- java/util/SequencedCollection -/
def k14 : Class := { plain "java/util/SequencedCollection" (some 0) with
  accessFlags := 1537
  interfaces := #[12]
  cf := some (fileOf pool14 8 #[] #[] 1537 26 #[28] #[])
  fields := #[]
  methods := #[]
  instanceTypes := #[]
  staticTypes := #[]
  resolved := Array.replicate 57 none
  statics := none }

def pool15 : Array CpInfo := pool [(8, .class_ 10), (1, u "java/util/List"), (92, .class_ 104), (0, u "java/lang/Object"), (15, .class_ 121), (0, u "java/util/SequencedCollection")] 129

/-- java/util/List -/
def k15 : Class := { plain "java/util/List" (some 0) with
  accessFlags := 1537
  interfaces := #[14]
  cf := some (fileOf pool15 8 #[] #[] 1537 103 #[120] #[])
  fields := #[]
  methods := #[]
  instanceTypes := #[]
  staticTypes := #[]
  resolved := Array.replicate 251 none
  statics := none }

def pool16 : Array CpInfo := pool [(1, .methodref 2 3), (0, .class_ 4), (0, .nameAndType 5 6), (0, u "java/util/AbstractCollection"), (0, u "<init>"), (0, u "()V"), (0, .fieldref 8 9), (0, .class_ 10), (0, .nameAndType 11 12), (0, u "java/util/AbstractList"), (0, u "modCount"), (0, u "I"), (64, .class_ 78), (0, u "java/util/AbstractList$Itr"), (3, .class_ 83), (0, u "java/util/AbstractList$ListItr"), (9, .class_ 94), (0, u "java/util/AbstractList$RandomAccessSubList"), (3, .class_ 99), (0, u "java/util/AbstractList$SubList"), (33, .class_ 134), (0, u "java/util/List"), (73, .class_ 209), (0, u "java/util/AbstractList$SubList$1"), (0, .class_ 211), (0, u "java/util/AbstractList$RandomAccessSpliterator")] 6

def k16c0 : Code := { maxStack := 2, maxLocals := 1, code := jdk_39_method_1_code, exceptionTable := #[], attributes := #[] }
def k16m0 : Method := { name := "<init>", desc := "()V", sig := { parameters := [], returnType := none }, accessFlags := 4, code := some k16c0 }
/-- java/util/AbstractList -/
def k16 : Class := { plain "java/util/AbstractList" (some 13) with
  accessFlags := 1057
  interfaces := #[15]
  cf := some (fileOf pool16 8 #[.nestMembers #[93, 98, 208, 210, 82, 77]] #[{ accessFlags := 4, nameIndex := 5, descriptorIndex := 6, attributes := #[] }] 1057 2 #[133] #[{ accessFlags := 132, nameIndex := 11, descriptorIndex := 12, attributes := #[] }])
  fields := #[{ name := "modCount", type := .int, accessFlags := 132, slot := 0, constantValue := 0 }]
  methods := #[k16m0]
  instanceTypes := #[.int]
  staticTypes := #[]
  resolved := Array.replicate 218 none
  statics := none }

def pool17 : Array CpInfo := pool [(1, .class_ 2), (0, u "java/util/RandomAccess"), (0, .class_ 4), (0, u "java/lang/Object")] 2

/-- java/util/RandomAccess -/
def k17 : Class := { plain "java/util/RandomAccess" (some 0) with
  accessFlags := 1537
  interfaces := #[]
  cf := some (fileOf pool17 1 #[] #[] 1537 3 #[] #[])
  fields := #[]
  methods := #[]
  instanceTypes := #[]
  staticTypes := #[]
  resolved := Array.replicate 7 none
  statics := none }

def pool18 : Array CpInfo := pool [(1, .class_ 2), (0, u "java/lang/Cloneable"), (0, .class_ 4), (0, u "java/lang/Object")] 2

/-- java/lang/Cloneable -/
def k18 : Class := { plain "java/lang/Cloneable" (some 0) with
  accessFlags := 1537
  interfaces := #[]
  cf := some (fileOf pool18 1 #[] #[] 1537 3 #[] #[])
  fields := #[]
  methods := #[]
  instanceTypes := #[]
  staticTypes := #[]
  resolved := Array.replicate 7 none
  statics := none }

def pool19 : Array CpInfo := pool [(1, .methodref 2 3), (0, .class_ 4), (0, .nameAndType 5 6), (0, u "java/util/AbstractList"), (0, u "<init>"), (0, u "()V"), (2, .fieldref 10 11), (0, .class_ 12), (0, .nameAndType 13 14), (0, u "java/util/ArrayList"), (0, u "elementData"), (0, u "[Ljava/lang/Object;"), (2, u "EMPTY_ELEMENTDATA"), (21, .fieldref 10 40), (0, .nameAndType 41 14), (0, u "DEFAULTCAPACITY_EMPTY_ELEMENTDATA"), (8, u "size"), (0, u "I"), (96, .class_ 149), (0, u "java/util/List"), (112, .class_ 263), (0, u "java/util/ArrayList$ListItr"), (3, .class_ 268), (0, u "java/util/ArrayList$Itr"), (7, .class_ 277), (0, u "java/util/ArrayList$SubList"), (12, .class_ 291), (0, u "java/util/ArrayList$ArrayListSpliterator"), (37, .class_ 330), (0, u "java/util/RandomAccess"), (0, .class_ 332), (0, u "java/lang/Cloneable"), (0, .class_ 334), (0, u "java/io/Serializable"), (0, u "serialVersionUID"), (0, u "J"), (3, u "DEFAULT_CAPACITY"), (159, .class_ 501), (0, u "java/util/ArrayList$SubList$2"), (0, .class_ 503), (0, u "java/util/ArrayList$SubList$1")] 5

def k19c0 : Code := { maxStack := 2, maxLocals := 1, code := jdk_38_method_2_code, exceptionTable := #[], attributes := #[] }
def k19m0 : Method := { name := "<init>", desc := "()V", sig := { parameters := [], returnType := none }, accessFlags := 1, code := some k19c0 }
/-- java/util/ArrayList -/
def k19 : Class := { plain "java/util/ArrayList" (some 16) with
  accessFlags := 33
  interfaces := #[15, 17, 18, 3]
  cf := some (fileOf pool19 10 #[.nestMembers #[290, 276, 500, 502, 262, 267]] #[{ accessFlags := 1, nameIndex := 5, descriptorIndex := 6, attributes := #[] }] 33 2 #[148, 329, 331, 333] #[{ accessFlags := 26, nameIndex := 335, descriptorIndex := 336, attributes := #[] }, { accessFlags := 26, nameIndex := 340, descriptorIndex := 51, attributes := #[] }, { accessFlags := 26, nameIndex := 17, descriptorIndex := 14, attributes := #[] }, { accessFlags := 26, nameIndex := 41, descriptorIndex := 14, attributes := #[] }, { accessFlags := 128, nameIndex := 13, descriptorIndex := 14, attributes := #[] }, { accessFlags := 2, nameIndex := 50, descriptorIndex := 51, attributes := #[] }])
  fields := #[{ name := "serialVersionUID", type := .long, accessFlags := 26, slot := 0, constantValue := 0 }, { name := "DEFAULT_CAPACITY", type := .int, accessFlags := 26, slot := 1, constantValue := 0 }, { name := "EMPTY_ELEMENTDATA", type := (.array (.object "java/lang/Object")), accessFlags := 26, slot := 2, constantValue := 0 }, { name := "DEFAULTCAPACITY_EMPTY_ELEMENTDATA", type := (.array (.object "java/lang/Object")), accessFlags := 26, slot := 3, constantValue := 0 }, { name := "elementData", type := (.array (.object "java/lang/Object")), accessFlags := 128, slot := 1, constantValue := 0 }, { name := "size", type := .int, accessFlags := 2, slot := 2, constantValue := 0 }]
  methods := #[k19m0]
  instanceTypes := #[.int, (.array (.object "java/lang/Object")), .int]
  staticTypes := #[.long, .int, (.array (.object "java/lang/Object")), (.array (.object "java/lang/Object"))]
  resolved := Array.replicate 509 none
  statics := some 2 }

def pool20 : Array CpInfo := pool [(4, .class_ 6), (1, u "java/lang/Object"), (0, u "<init>"), (0, u "()V"), (5, .class_ 16), (1, u "java/lang/StringLatin1"), (104, u "$assertionsDisabled"), (0, u "Z"), (98, .class_ 223), (1, u "java/lang/StringLatin1$LinesSpliterator"), (166, .class_ 391), (0, u "java/lang/StringLatin1$CharsSpliterator")] 3

def k20m0 : Method := { name := "<init>", desc := "()V", sig := { parameters := [], returnType := none }, accessFlags := 0, code := none }
/-- java/lang/StringLatin1 -/
def k20 : Class := { plain "java/lang/StringLatin1" (some 0) with
  accessFlags := 48
  interfaces := #[]
  cf := some (fileOf pool20 14 #[.nestMembers #[390, 221]] #[{ accessFlags := 0, nameIndex := 7, descriptorIndex := 8, attributes := #[] }] 48 4 #[] #[{ accessFlags := 4120, nameIndex := 121, descriptorIndex := 122, attributes := #[] }])
  fields := #[{ name := "$assertionsDisabled", type := .boolean, accessFlags := 4120, slot := 0, constantValue := 0 }]
  methods := #[k20m0]
  instanceTypes := #[]
  staticTypes := #[.boolean]
  resolved := Array.replicate 395 none
  statics := none }

def pool21 : Array CpInfo := pool [(2, .class_ 4), (1, u "java/lang/Object"), (0, u "<init>"), (0, u "()V"), (17, .class_ 26), (1, u "jdk/internal/util/Preconditions"), (28, .class_ 56), (0, u "jdk/internal/util/Preconditions$4"), (57, .class_ 115), (0, u "jdk/internal/util/Preconditions$1"), (7, u "SIOOBE_FORMATTER"), (0, u "Ljava/util/function/BiFunction;"), (0, .class_ 126), (0, u "jdk/internal/util/Preconditions$2"), (3, u "AIOOBE_FORMATTER"), (0, .class_ 132), (0, u "jdk/internal/util/Preconditions$3"), (3, u "IOOBE_FORMATTER")] 57

def k21m0 : Method := { name := "<init>", desc := "()V", sig := { parameters := [], returnType := none }, accessFlags := 1, code := none }
/-- jdk/internal/util/Preconditions -/
def k21 : Class := { plain "jdk/internal/util/Preconditions" (some 0) with
  accessFlags := 33
  interfaces := #[]
  cf := some (fileOf pool21 24 #[.nestMembers #[55, 131, 125, 114]] #[{ accessFlags := 1, nameIndex := 5, descriptorIndex := 6, attributes := #[] }] 33 2 #[] #[{ accessFlags := 25, nameIndex := 123, descriptorIndex := 124, attributes := #[] }, { accessFlags := 25, nameIndex := 130, descriptorIndex := 124, attributes := #[] }, { accessFlags := 25, nameIndex := 136, descriptorIndex := 124, attributes := #[] }])
  fields := #[{ name := "SIOOBE_FORMATTER", type := (.object "java/util/function/BiFunction"), accessFlags := 25, slot := 0, constantValue := 0 }, { name := "AIOOBE_FORMATTER", type := (.object "java/util/function/BiFunction"), accessFlags := 25, slot := 1, constantValue := 0 }, { name := "IOOBE_FORMATTER", type := (.object "java/util/function/BiFunction"), accessFlags := 25, slot := 2, constantValue := 0 }]
  methods := #[k21m0]
  instanceTypes := #[]
  staticTypes := #[(.object "java/util/function/BiFunction"), (.object "java/util/function/BiFunction"), (.object "java/util/function/BiFunction")]
  resolved := Array.replicate 194 none
  statics := some 3 }

def pool22 : Array CpInfo := pool [(9, u "<init>"), (6, .class_ 18), (1, u "java/lang/Object"), (0, u "()V"), (1, .class_ 23), (1, u "jdk/internal/util/ArraysSupport"), (0, u "LOG2_ARRAY_LONG_INDEX_SCALE"), (0, u "I"), (2, u "U"), (0, u "Ljdk/internal/misc/Unsafe;"), (8, u "BIG_ENDIAN"), (0, u "Z"), (8, u "LOG2_BYTE_BIT_SIZE"), (4, u "LOG2_ARRAY_INT_INDEX_SCALE"), (54, u "JLA"), (0, u "Ljdk/internal/access/JavaLangAccess;"), (11, u "LOG2_ARRAY_BOOLEAN_INDEX_SCALE"), (9, u "LOG2_ARRAY_BYTE_INDEX_SCALE"), (5, u "LOG2_ARRAY_CHAR_INDEX_SCALE"), (5, u "LOG2_ARRAY_SHORT_INDEX_SCALE"), (18, u "LOG2_ARRAY_FLOAT_INDEX_SCALE"), (24, u "LOG2_ARRAY_DOUBLE_INDEX_SCALE"), (89, u "T_BOOLEAN"), (2, u "T_CHAR"), (1, u "T_FLOAT"), (1, u "T_DOUBLE"), (1, u "T_BYTE"), (1, u "T_SHORT"), (1, u "T_INT"), (1, u "T_LONG"), (1, u "SOFT_MAX_ARRAY_LENGTH")] 83

def k22m0 : Method := { name := "<init>", desc := "()V", sig := { parameters := [], returnType := none }, accessFlags := 2, code := none }
/-- jdk/internal/util/ArraysSupport -/
def k22 : Class := { plain "jdk/internal/util/ArraysSupport" (some 0) with
  accessFlags := 33
  interfaces := #[]
  cf := some (fileOf pool22 21 #[] #[{ accessFlags := 2, nameIndex := 9, descriptorIndex := 19, attributes := #[] }] 33 16 #[] #[{ accessFlags := 24, nameIndex := 28, descriptorIndex := 29, attributes := #[] }, { accessFlags := 26, nameIndex := 38, descriptorIndex := 39, attributes := #[] }, { accessFlags := 25, nameIndex := 121, descriptorIndex := 25, attributes := #[] }, { accessFlags := 25, nameIndex := 131, descriptorIndex := 25, attributes := #[] }, { accessFlags := 25, nameIndex := 137, descriptorIndex := 25, attributes := #[] }, { accessFlags := 25, nameIndex := 143, descriptorIndex := 25, attributes := #[] }, { accessFlags := 25, nameIndex := 53, descriptorIndex := 25, attributes := #[] }, { accessFlags := 25, nameIndex := 24, descriptorIndex := 25, attributes := #[] }, { accessFlags := 25, nameIndex := 162, descriptorIndex := 25, attributes := #[] }, { accessFlags := 25, nameIndex := 187, descriptorIndex := 25, attributes := #[] }, { accessFlags := 26, nameIndex := 48, descriptorIndex := 25, attributes := #[] }, { accessFlags := 25, nameIndex := 277, descriptorIndex := 25, attributes := #[] }, { accessFlags := 25, nameIndex := 280, descriptorIndex := 25, attributes := #[] }, { accessFlags := 25, nameIndex := 282, descriptorIndex := 25, attributes := #[] }, { accessFlags := 25, nameIndex := 284, descriptorIndex := 25, attributes := #[] }, { accessFlags := 25, nameIndex := 286, descriptorIndex := 25, attributes := #[] }, { accessFlags := 25, nameIndex := 288, descriptorIndex := 25, attributes := #[] }, { accessFlags := 25, nameIndex := 290, descriptorIndex := 25, attributes := #[] }, { accessFlags := 25, nameIndex := 292, descriptorIndex := 25, attributes := #[] }, { accessFlags := 26, nameIndex := 108, descriptorIndex := 109, attributes := #[] }, { accessFlags := 25, nameIndex := 294, descriptorIndex := 25, attributes := #[] }])
  fields := #[{ name := "U", type := (.object "jdk/internal/misc/Unsafe"), accessFlags := 24, slot := 0, constantValue := 0 }, { name := "BIG_ENDIAN", type := .boolean, accessFlags := 26, slot := 1, constantValue := 0 }, { name := "LOG2_ARRAY_BOOLEAN_INDEX_SCALE", type := .int, accessFlags := 25, slot := 2, constantValue := 0 }, { name := "LOG2_ARRAY_BYTE_INDEX_SCALE", type := .int, accessFlags := 25, slot := 3, constantValue := 0 }, { name := "LOG2_ARRAY_CHAR_INDEX_SCALE", type := .int, accessFlags := 25, slot := 4, constantValue := 0 }, { name := "LOG2_ARRAY_SHORT_INDEX_SCALE", type := .int, accessFlags := 25, slot := 5, constantValue := 0 }, { name := "LOG2_ARRAY_INT_INDEX_SCALE", type := .int, accessFlags := 25, slot := 6, constantValue := 0 }, { name := "LOG2_ARRAY_LONG_INDEX_SCALE", type := .int, accessFlags := 25, slot := 7, constantValue := 0 }, { name := "LOG2_ARRAY_FLOAT_INDEX_SCALE", type := .int, accessFlags := 25, slot := 8, constantValue := 0 }, { name := "LOG2_ARRAY_DOUBLE_INDEX_SCALE", type := .int, accessFlags := 25, slot := 9, constantValue := 0 }, { name := "LOG2_BYTE_BIT_SIZE", type := .int, accessFlags := 26, slot := 10, constantValue := 0 }, { name := "T_BOOLEAN", type := .int, accessFlags := 25, slot := 11, constantValue := 0 }, { name := "T_CHAR", type := .int, accessFlags := 25, slot := 12, constantValue := 0 }, { name := "T_FLOAT", type := .int, accessFlags := 25, slot := 13, constantValue := 0 }, { name := "T_DOUBLE", type := .int, accessFlags := 25, slot := 14, constantValue := 0 }, { name := "T_BYTE", type := .int, accessFlags := 25, slot := 15, constantValue := 0 }, { name := "T_SHORT", type := .int, accessFlags := 25, slot := 16, constantValue := 0 }, { name := "T_INT", type := .int, accessFlags := 25, slot := 17, constantValue := 0 }, { name := "T_LONG", type := .int, accessFlags := 25, slot := 18, constantValue := 0 }, { name := "JLA", type := (.object "jdk/internal/access/JavaLangAccess"), accessFlags := 26, slot := 19, constantValue := 0 }, { name := "SOFT_MAX_ARRAY_LENGTH", type := .int, accessFlags := 25, slot := 20, constantValue := 0 }]
  methods := #[k22m0]
  instanceTypes := #[]
  staticTypes := #[(.object "jdk/internal/misc/Unsafe"), .boolean, .int, .int, .int, .int, .int, .int, .int, .int, .int, .int, .int, .int, .int, .int, .int, .int, .int, (.object "jdk/internal/access/JavaLangAccess"), .int]
  resolved := Array.replicate 378 none
  statics := none }

/-- the primitive byte -/
def k23 : Class := { plain "byte" none with kind := .primitive 'B', accessFlags := 0x411 }
/-- [B -/
def k24 : Class := { plain "[B" (some 0) with kind := .array 23 .byte, interfaces := #[18, 3], accessFlags := 1041 }

/-- the primitive char -/
def k25 : Class := { plain "char" none with kind := .primitive 'C', accessFlags := 0x411 }
/-- [C -/
def k26 : Class := { plain "[C" (some 0) with kind := .array 25 .char, interfaces := #[18, 3], accessFlags := 1041 }

/-- the primitive int -/
def k27 : Class := { plain "int" none with kind := .primitive 'I', accessFlags := 0x411 }
/-- [I -/
def k28 : Class := { plain "[I" (some 0) with kind := .array 27 .int, interfaces := #[18, 3], accessFlags := 1041 }

/-- [Ljava/lang/Object; -/
def k29 : Class := { plain "[Ljava/lang/Object;" (some 0) with kind := .array 0 (.object "java/lang/Object"), interfaces := #[18, 3], accessFlags := 1041 }

def heap : Heap := #[{ cls := 8, slots := #[.long 0, .int 1, .null, .int 0, .null, .int 0, .int 0], vm := .statics 8 },
  { cls := 10, slots := #[.ref 4], vm := .statics 10 },
  { cls := 19, slots := #[.long 0, .int 0, .ref 5, .ref 6], vm := .statics 19 },
  { cls := 21, slots := #[.null, .null, .null], vm := .statics 21 },
  { cls := 28, slots := #[], vm := .none },
  { cls := 29, slots := #[], vm := .none },
  { cls := 29, slots := #[], vm := .none }]
def classes : Array Class := #[k0, k1, k2, k3, k4, k5, k6, k7, k8, k9, k10, k11, k12, k13, k14, k15, k16, k17, k18, k19, k20, k21, k22, k23, k24, k25, k26, k27, k28, k29]
def interned : List (Array UInt16 × Addr) := []
def slotsUsed : Nat := 15
def theMethod : MethodId := ⟨1, 1⟩
def args0 : Array Value := #[.int 5, .int 7, .int 65, .int 2]
def aboutOver (below : List Frame) : State where
  vm := { classes := classes, interned := interned.toArray }
  heap := heap
  slotsUsed := slotsUsed
  threads := #[{ frames := .invoking theMethod args0 :: below }]
def below0 : List Frame := [.native { method := ⟨0, 0⟩, args := #[] }]
def about1 : State := aboutOver below0
def p0 : Program := .bare "" "" ""
def e0 : Env := launch0.env 0 0 0
theorem w_frames : about1.frames = Frame.invoking theMethod args0 :: below0 := rfl
set_option maxRecDepth 65536 in
theorem w_args : argsFit about1.vm theMethod args0 = true := by decide +kernel
set_option maxRecDepth 65536 in
theorem w_heap : heapFits about1 = true := by decide +kernel
set_option maxRecDepth 65536 in
theorem w_runnable : about1.curStatus? = some .runnable := by decide +kernel
set_option maxRecDepth 65536 in
theorem w_alone : about1.alone = true := by decide +kernel
set_option maxRecDepth 65536 in
theorem w_named : about1.methodNamed? x = some theMethod := by decide +kernel
set_option maxRecDepth 65536 in
theorem w_hears : about1.hears theMethod below0 = true := by decide +kernel
set_option maxRecDepth 65536 in
theorem w_ripe : about1.ripe theMethod args0 below0 = true := by decide +kernel
theorem w_running : about1.status = .running := rfl
set_option maxRecDepth 65536 in
theorem w_room : about1.hasRoom e0.platform room_1 = true :=
  launch0.hasRoom_least _ room_1 (by decide +kernel) (by decide +kernel) (by decide +kernel) (by decide +kernel) (by decide +kernel) (by decide +kernel)
theorem allAtoms_all (ts : List Jvm.Cond) (a : Array Jvm.Value) (st : Jvm.State) : (allAtoms ts).before a st = ts.all (fun c => c.before a st) := by
  induction ts with
  | nil => rfl
  | cons c t ih =>
    show (Jvm.Cond.and c (allAtoms t)).before a st = _
    rw [Jvm.Cond.before_and, ih, List.all_cons]
def words1 : List Jvm.Cond := Jvm.Cond.code x code maxLocals ret :: tables_1
/-- a 'code' word, met by the world's own term for the bytes: nothing is compared byte by byte -/
theorem code_word {y : MethodName} {bytes : ByteArray} {mx : Nat} {rt : Option FieldType} {a : Array Value} {s : State} {m : MethodId} {meth : Method} {c : Code} (h1 : s.methodNamed? y = some m) (h2 : s.vm.method? m = some meth) (h3 : meth.code = some c) (h4 : c.code = bytes)
    (h5 : (c.maxLocals == mx && c.exceptionTable.isEmpty && decide (c.maxStack ≤ mostOperands) && decide (meth.sig.returnType = rt) && !meth.locks && decide (parseMethodDescriptor y.desc = some meth.sig)) = true) : (Jvm.Cond.code y bytes mx rt).before a s = true := by
  simp only [Bool.and_eq_true, beq_iff_eq, Bool.not_eq_true', decide_eq_true_eq] at h5
  obtain ⟨⟨⟨⟨⟨g1, g2⟩, g3⟩, g4⟩, g5⟩, g6⟩ := h5
  simp [Cond.before, Cond.holds, Cond.value, h1, h2, h3, h4, g1, g2, g3, g4, g5, g6]
def isCode : Jvm.Cond → Bool
  | .code _ _ _ _ => true
  | _ => false
theorem all_split {L : List Jvm.Cond} {P : Jvm.Cond → Bool} (h1 : L.all (fun c => isCode c || P c) = true) (h2 : ∀ c ∈ L.filter isCode, P c = true) : L.all P = true := by
  refine List.all_eq_true.mpr fun c hc => ?_
  have h := List.all_eq_true.mp h1 c hc
  rcases Bool.eq_false_or_eq_true (isCode c) with hi | hi
  · exact h2 c (List.mem_filter.mpr ⟨hc, hi⟩)
  · simpa [hi] using h
set_option maxRecDepth 65536 in
theorem w_c0 : (Jvm.Cond.code x code maxLocals ret).before args0 about1 = true := code_word (m := ⟨1, 1⟩) (meth := k1m1) (c := k1c1) (by decide +kernel) rfl rfl rfl (by decide +kernel)
set_option maxRecDepth 65536 in
theorem w_c1 : (Jvm.Cond.code ({ cls := "com/example/weaverbird/weaverbird/sql/ItemColumn", name := "<init>", desc := "(IIIZ)V" } : Jvm.MethodName) prog_110_method_1_code (5 : Nat) (Option.none : Option Jvm.ClassFile.FieldType)).before args0 about1 = true := code_word (m := ⟨2, 0⟩) (meth := k2m0) (c := k2c0) (by decide +kernel) rfl rfl rfl (by decide +kernel)
set_option maxRecDepth 65536 in
theorem w_c2 : (Jvm.Cond.code ({ cls := "com/example/weaverbird/weaverbird/sql/ItemColumn", name := "<init>", desc := "(IILcom/example/weaverbird/weaverbird/sql/SqlText;Ljava/lang/String;IZLjava/util/List;)V" } : Jvm.MethodName) prog_110_method_3_code (8 : Nat) (Option.none : Option Jvm.ClassFile.FieldType)).before args0 about1 = true := code_word (m := ⟨2, 2⟩) (meth := k2m2) (c := k2c2) (by decide +kernel) rfl rfl rfl (by decide +kernel)
set_option maxRecDepth 65536 in
theorem w_c3 : (Jvm.Cond.code ({ cls := "java/lang/Object", name := "<init>", desc := "()V" } : Jvm.MethodName) object_method_1_code (1 : Nat) (Option.none : Option Jvm.ClassFile.FieldType)).before args0 about1 = true := code_word (m := ⟨0, 0⟩) (meth := k0m0) (c := k0c0) (by decide +kernel) rfl rfl rfl (by decide +kernel)
set_option maxRecDepth 65536 in
theorem w_c4 : (Jvm.Cond.code ({ cls := "com/example/weaverbird/weaverbird/sql/ItemColumn", name := "isEmpty", desc := "()Z" } : Jvm.MethodName) prog_110_method_7_code (1 : Nat) (Option.some Jvm.ClassFile.FieldType.boolean)).before args0 about1 = true := code_word (m := ⟨2, 6⟩) (meth := k2m6) (c := k2c6) (by decide +kernel) rfl rfl rfl (by decide +kernel)
set_option maxRecDepth 65536 in
theorem w_c5 : (Jvm.Cond.code ({ cls := "com/example/weaverbird/weaverbird/sql/ItemColumn", name := "from", desc := "()I" } : Jvm.MethodName) prog_110_method_5_code (1 : Nat) (Option.some Jvm.ClassFile.FieldType.int)).before args0 about1 = true := code_word (m := ⟨2, 4⟩) (meth := k2m4) (c := k2c4) (by decide +kernel) rfl rfl rfl (by decide +kernel)
set_option maxRecDepth 65536 in
theorem w_c6 : (Jvm.Cond.code ({ cls := "com/example/weaverbird/weaverbird/sql/ItemColumn", name := "to", desc := "()I" } : Jvm.MethodName) prog_110_method_6_code (1 : Nat) (Option.some Jvm.ClassFile.FieldType.int)).before args0 about1 = true := code_word (m := ⟨2, 5⟩) (meth := k2m5) (c := k2c5) (by decide +kernel) rfl rfl rfl (by decide +kernel)
set_option maxRecDepth 65536 in
theorem w_c7 : (Jvm.Cond.code ({ cls := "java/lang/String", name := "<init>", desc := "([C)V" } : Jvm.MethodName) jdk_42_method_3_code (2 : Nat) (Option.none : Option Jvm.ClassFile.FieldType)).before args0 about1 = true := code_word (m := ⟨8, 1⟩) (meth := k8m1) (c := k8c1) (by decide +kernel) rfl rfl rfl (by decide +kernel)
set_option maxRecDepth 65536 in
theorem w_c8 : (Jvm.Cond.code ({ cls := "java/lang/String", name := "<init>", desc := "([CIILjava/lang/Void;)V" } : Jvm.MethodName) jdk_42_method_149_code (6 : Nat) (Option.none : Option Jvm.ClassFile.FieldType)).before args0 about1 = true := code_word (m := ⟨8, 2⟩) (meth := k8m2) (c := k8c2) (by decide +kernel) rfl rfl rfl (by decide +kernel)
set_option maxRecDepth 65536 in
theorem w_c9 : (Jvm.Cond.code ({ cls := "java/lang/StringUTF16", name := "compress", desc := "([CII)[B" } : Jvm.MethodName) jdk_52_method_16_code (6 : Nat) (Option.some (Jvm.ClassFile.FieldType.array Jvm.ClassFile.FieldType.byte))).before args0 about1 = true := code_word (m := ⟨9, 2⟩) (meth := k9m2) (c := k9c2) (by decide +kernel) rfl rfl rfl (by decide +kernel)
set_option maxRecDepth 65536 in
theorem w_c10 : (Jvm.Cond.code ({ cls := "java/lang/StringUTF16", name := "compress", desc := "([CI[BII)I" } : Jvm.MethodName) jdk_52_method_21_code (7 : Nat) (Option.some Jvm.ClassFile.FieldType.int)).before args0 about1 = true := code_word (m := ⟨9, 3⟩) (meth := k9m3) (c := k9c3) (by decide +kernel) rfl rfl rfl (by decide +kernel)
set_option maxRecDepth 65536 in
theorem w_c11 : (Jvm.Cond.code ({ cls := "java/lang/StringUTF16", name := "coderFromArrayLen", desc := "([BI)B" } : Jvm.MethodName) jdk_52_method_15_code (2 : Nat) (Option.some Jvm.ClassFile.FieldType.byte)).before args0 about1 = true := code_word (m := ⟨9, 1⟩) (meth := k9m1) (c := k9c1) (by decide +kernel) rfl rfl rfl (by decide +kernel)
set_option maxRecDepth 65536 in
theorem w_c12 : (Jvm.Cond.code ({ cls := "com/example/weaverbird/weaverbird/sql/SqlText", name := "of", desc := "(Ljava/lang/String;)Lcom/example/weaverbird/weaverbird/sql/SqlText;" } : Jvm.MethodName) prog_136_method_2_code (1 : Nat) (Option.some (Jvm.ClassFile.FieldType.object "com/example/weaverbird/weaverbird/sql/SqlText"))).before args0 about1 = true := code_word (m := ⟨10, 1⟩) (meth := k10m1) (c := k10c1) (by decide +kernel) rfl rfl rfl (by decide +kernel)
set_option maxRecDepth 65536 in
theorem w_c13 : (Jvm.Cond.code ({ cls := "com/example/weaverbird/weaverbird/sql/SqlText", name := "<init>", desc := "(Ljava/lang/String;[I)V" } : Jvm.MethodName) prog_136_method_1_code (3 : Nat) (Option.none : Option Jvm.ClassFile.FieldType)).before args0 about1 = true := code_word (m := ⟨10, 0⟩) (meth := k10m0) (c := k10c0) (by decide +kernel) rfl rfl rfl (by decide +kernel)
set_option maxRecDepth 65536 in
theorem w_c14 : (Jvm.Cond.code ({ cls := "com/example/weaverbird/weaverbird/sql/ItemColumn", name := "<init>", desc := "(Lcom/example/weaverbird/weaverbird/sql/SqlText;Ljava/lang/String;IZ)V" } : Jvm.MethodName) prog_110_method_2_code (5 : Nat) (Option.none : Option Jvm.ClassFile.FieldType)).before args0 about1 = true := code_word (m := ⟨2, 1⟩) (meth := k2m1) (c := k2c1) (by decide +kernel) rfl rfl rfl (by decide +kernel)
set_option maxRecDepth 65536 in
theorem w_c15 : (Jvm.Cond.code ({ cls := "java/util/ArrayList", name := "<init>", desc := "()V" } : Jvm.MethodName) jdk_38_method_2_code (1 : Nat) (Option.none : Option Jvm.ClassFile.FieldType)).before args0 about1 = true := code_word (m := ⟨19, 0⟩) (meth := k19m0) (c := k19c0) (by decide +kernel) rfl rfl rfl (by decide +kernel)
set_option maxRecDepth 65536 in
theorem w_c16 : (Jvm.Cond.code ({ cls := "java/util/AbstractList", name := "<init>", desc := "()V" } : Jvm.MethodName) jdk_39_method_1_code (1 : Nat) (Option.none : Option Jvm.ClassFile.FieldType)).before args0 about1 = true := code_word (m := ⟨16, 0⟩) (meth := k16m0) (c := k16c0) (by decide +kernel) rfl rfl rfl (by decide +kernel)
set_option maxRecDepth 65536 in
theorem w_c17 : (Jvm.Cond.code ({ cls := "java/util/AbstractCollection", name := "<init>", desc := "()V" } : Jvm.MethodName) jdk_22_method_1_code (1 : Nat) (Option.none : Option Jvm.ClassFile.FieldType)).before args0 about1 = true := code_word (m := ⟨13, 0⟩) (meth := k13m0) (c := k13c0) (by decide +kernel) rfl rfl rfl (by decide +kernel)
set_option maxRecDepth 65536 in
theorem w_c18 : (Jvm.Cond.code ({ cls := "com/example/weaverbird/weaverbird/sql/ItemColumn", name := "rank", desc := "(Ljava/util/List;)Lcom/example/weaverbird/weaverbird/sql/ItemColumn;" } : Jvm.MethodName) prog_110_method_4_code (1 : Nat) (Option.some (Jvm.ClassFile.FieldType.object "com/example/weaverbird/weaverbird/sql/ItemColumn"))).before args0 about1 = true := code_word (m := ⟨2, 3⟩) (meth := k2m3) (c := k2c3) (by decide +kernel) rfl rfl rfl (by decide +kernel)
def codes1 : List Jvm.Cond := [Jvm.Cond.code x code maxLocals ret, Jvm.Cond.code ({ cls := "com/example/weaverbird/weaverbird/sql/ItemColumn", name := "<init>", desc := "(IIIZ)V" } : Jvm.MethodName) prog_110_method_1_code (5 : Nat) (Option.none : Option Jvm.ClassFile.FieldType), Jvm.Cond.code ({ cls := "com/example/weaverbird/weaverbird/sql/ItemColumn", name := "<init>", desc := "(IILcom/example/weaverbird/weaverbird/sql/SqlText;Ljava/lang/String;IZLjava/util/List;)V" } : Jvm.MethodName) prog_110_method_3_code (8 : Nat) (Option.none : Option Jvm.ClassFile.FieldType), Jvm.Cond.code ({ cls := "java/lang/Object", name := "<init>", desc := "()V" } : Jvm.MethodName) object_method_1_code (1 : Nat) (Option.none : Option Jvm.ClassFile.FieldType), Jvm.Cond.code ({ cls := "com/example/weaverbird/weaverbird/sql/ItemColumn", name := "isEmpty", desc := "()Z" } : Jvm.MethodName) prog_110_method_7_code (1 : Nat) (Option.some Jvm.ClassFile.FieldType.boolean), Jvm.Cond.code ({ cls := "com/example/weaverbird/weaverbird/sql/ItemColumn", name := "from", desc := "()I" } : Jvm.MethodName) prog_110_method_5_code (1 : Nat) (Option.some Jvm.ClassFile.FieldType.int), Jvm.Cond.code ({ cls := "com/example/weaverbird/weaverbird/sql/ItemColumn", name := "to", desc := "()I" } : Jvm.MethodName) prog_110_method_6_code (1 : Nat) (Option.some Jvm.ClassFile.FieldType.int), Jvm.Cond.code ({ cls := "java/lang/String", name := "<init>", desc := "([C)V" } : Jvm.MethodName) jdk_42_method_3_code (2 : Nat) (Option.none : Option Jvm.ClassFile.FieldType), Jvm.Cond.code ({ cls := "java/lang/String", name := "<init>", desc := "([CIILjava/lang/Void;)V" } : Jvm.MethodName) jdk_42_method_149_code (6 : Nat) (Option.none : Option Jvm.ClassFile.FieldType), Jvm.Cond.code ({ cls := "java/lang/StringUTF16", name := "compress", desc := "([CII)[B" } : Jvm.MethodName) jdk_52_method_16_code (6 : Nat) (Option.some (Jvm.ClassFile.FieldType.array Jvm.ClassFile.FieldType.byte)), Jvm.Cond.code ({ cls := "java/lang/StringUTF16", name := "compress", desc := "([CI[BII)I" } : Jvm.MethodName) jdk_52_method_21_code (7 : Nat) (Option.some Jvm.ClassFile.FieldType.int), Jvm.Cond.code ({ cls := "java/lang/StringUTF16", name := "coderFromArrayLen", desc := "([BI)B" } : Jvm.MethodName) jdk_52_method_15_code (2 : Nat) (Option.some Jvm.ClassFile.FieldType.byte), Jvm.Cond.code ({ cls := "com/example/weaverbird/weaverbird/sql/SqlText", name := "of", desc := "(Ljava/lang/String;)Lcom/example/weaverbird/weaverbird/sql/SqlText;" } : Jvm.MethodName) prog_136_method_2_code (1 : Nat) (Option.some (Jvm.ClassFile.FieldType.object "com/example/weaverbird/weaverbird/sql/SqlText")), Jvm.Cond.code ({ cls := "com/example/weaverbird/weaverbird/sql/SqlText", name := "<init>", desc := "(Ljava/lang/String;[I)V" } : Jvm.MethodName) prog_136_method_1_code (3 : Nat) (Option.none : Option Jvm.ClassFile.FieldType), Jvm.Cond.code ({ cls := "com/example/weaverbird/weaverbird/sql/ItemColumn", name := "<init>", desc := "(Lcom/example/weaverbird/weaverbird/sql/SqlText;Ljava/lang/String;IZ)V" } : Jvm.MethodName) prog_110_method_2_code (5 : Nat) (Option.none : Option Jvm.ClassFile.FieldType), Jvm.Cond.code ({ cls := "java/util/ArrayList", name := "<init>", desc := "()V" } : Jvm.MethodName) jdk_38_method_2_code (1 : Nat) (Option.none : Option Jvm.ClassFile.FieldType), Jvm.Cond.code ({ cls := "java/util/AbstractList", name := "<init>", desc := "()V" } : Jvm.MethodName) jdk_39_method_1_code (1 : Nat) (Option.none : Option Jvm.ClassFile.FieldType), Jvm.Cond.code ({ cls := "java/util/AbstractCollection", name := "<init>", desc := "()V" } : Jvm.MethodName) jdk_22_method_1_code (1 : Nat) (Option.none : Option Jvm.ClassFile.FieldType), Jvm.Cond.code ({ cls := "com/example/weaverbird/weaverbird/sql/ItemColumn", name := "rank", desc := "(Ljava/util/List;)Lcom/example/weaverbird/weaverbird/sql/ItemColumn;" } : Jvm.MethodName) prog_110_method_4_code (1 : Nat) (Option.some (Jvm.ClassFile.FieldType.object "com/example/weaverbird/weaverbird/sql/ItemColumn"))]
set_option maxRecDepth 65536 in
theorem codes_eq : words1.filter isCode = codes1 := rfl
theorem w_codes : ∀ c ∈ words1.filter isCode, c.before args0 about1 = true := by
  rw [codes_eq]
  intro c hc
  simp only [codes1, List.mem_cons, List.not_mem_nil, or_false] at hc
  rcases hc with rfl | rfl | rfl | rfl | rfl | rfl | rfl | rfl | rfl | rfl | rfl | rfl | rfl | rfl | rfl | rfl | rfl | rfl | rfl
  · exact w_c0
  · exact w_c1
  · exact w_c2
  · exact w_c3
  · exact w_c4
  · exact w_c5
  · exact w_c6
  · exact w_c7
  · exact w_c8
  · exact w_c9
  · exact w_c10
  · exact w_c11
  · exact w_c12
  · exact w_c13
  · exact w_c14
  · exact w_c15
  · exact w_c16
  · exact w_c17
  · exact w_c18
set_option maxRecDepth 65536 in
theorem w_t1 : (words1.take 24).all (fun c => isCode c || c.before args0 about1) = true := by decide +kernel
set_option maxRecDepth 65536 in
theorem w_t2 : ((words1.drop 24).take 24).all (fun c => isCode c || c.before args0 about1) = true := by decide +kernel
set_option maxRecDepth 65536 in
theorem w_t3 : (((words1.drop 24).drop 24).take 24).all (fun c => isCode c || c.before args0 about1) = true := by decide +kernel
set_option maxRecDepth 65536 in
theorem w_t4 : ((((words1.drop 24).drop 24).drop 24).take 24).all (fun c => isCode c || c.before args0 about1) = true := by decide +kernel
set_option maxRecDepth 65536 in
theorem w_t5 : ((((words1.drop 24).drop 24).drop 24).drop 24).all (fun c => isCode c || c.before args0 about1) = true := by decide +kernel
theorem w_tables : (allAtoms (Jvm.Cond.code x code maxLocals ret :: tables_1)).before args0 about1 = true := by
  rw [allAtoms_all]
  show words1.all (fun c => c.before args0 about1) = true
  refine all_split ?_ w_codes
  rw [← List.take_append_drop 24 words1, List.all_append, w_t1, ← List.take_append_drop 24 (words1.drop 24), List.all_append, w_t2, ← List.take_append_drop 24 ((words1.drop 24).drop 24), List.all_append, w_t3, ← List.take_append_drop 24 (((words1.drop 24).drop 24).drop 24), List.all_append, w_t4, w_t5]
  rfl
set_option maxRecDepth 65536 in
theorem w_rest : rest_1_c.before args0 about1 = true := by decide +kernel
set_option maxRecDepth 65536 in
theorem w_case : (Jvm.Cond.and given_1 narrow_1).before args0 about1 = true := by decide +kernel
theorem w_applies : (headSpec (Jvm.Cond.code x code maxLocals ret :: tables_1) room_1).applies x e0.platform about1 = true :=
  (Spec.applies_iff w_frames).mpr ⟨w_running, w_runnable, w_alone, w_named, w_hears, w_ripe, w_room, w_tables⟩
theorem atStart : AtStart classFile x code maxLocals ret World_1 tables_1 room_1 Calls_1 rest_1 Pre_1 launch0 p0 e0 about1 theMethod args0 below0 :=
  ⟨lists_1, trivial, launch0.admits_env _ _ _, launch0.least_env, fairChoices_fair.cas, fairChoices_fair.clock, w_frames, w_args, w_heap, w_applies, trivial, w_rest, w_case⟩
end start1
theorem witness_1 : WitnessClaimed_1 := ⟨start1.p0, start1.e0, start1.about1, start1.theMethod, start1.args0, start1.below0, start1.atStart⟩
end Jvm.Pilot.@@N@@
