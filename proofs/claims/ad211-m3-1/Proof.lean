import JvmDerived
import JvmDerived.Pilot.@@N@@Statement
import JvmDerived.Pilot.@@N@@Code
set_option linter.unusedVariables false
set_option linter.unusedSimpArgs false
namespace Jvm.Pilot.@@N@@
open Jvm Jvm.ClassFile Sem Op Lib Jvm.Free Jvm.Stand Jvm.LawKit Jvm.RoadKit Bundle Jvm.Pilot.@@N@@.Jvm.D
section Own
variable {p : Program} {l : Launch} {e : Env} {R : Room} {s : State} {m : MethodId} {args : Array Value} {below : List Frame} {meth : Method} {c : Code} {T T' Z : State} {locs : List Loc} {cells slots : Nat} {P : Outcome → State → Prop} {a0 : Array Value} {h : Heap}
/-- from the frame g over the state T the run ends, and P holds of the end -/
def Ends (p : Program) (e : Env) (below : List Frame) (P : Outcome → State → Prop) (T : State) (g : JFrame) : Prop :=
  ∃ s₂ o, Steps p.tables e below (T.setTop g) s₂ ∧ s₂.status = .running ∧ Ended s₂ below o ∧ P o s₂
theorem Ends.by {g g' : JFrame} (h : ∀ t, Steps p.tables e below (T'.setTop g') t → Steps p.tables e below (T.setTop g) t) (k : Ends p e below P T' g') : Ends p e below P T g :=
  let ⟨s₂, o, h1, r⟩ := k; ⟨s₂, o, h _ h1, r⟩
theorem Ends.on {g g' : JFrame} (h : Steps p.tables e below (T.setTop g) (T'.setTop g')) (k : Ends p e below P T' g') : Ends p e below P T g :=
  let ⟨s₂, o, h1, r⟩ := k; ⟨s₂, o, h.trans h1, r⟩
/-- the end: it returned v, Q holds of v, the heap and the places written; the frame -/
def Fini (s : State) (Q : Option Value → Heap → List Loc → Prop) (rc rs : Nat) : Outcome → State → Prop :=
  fun o U' => ∃ v L, o = .returned v ∧ Q v U'.heap L ∧ FrameEnd s o U' L rc rs
/-- a body's contract: from these arguments over the heap h0 it returns with Q -/
def Con (l : Launch) (Z : State) (y : MethodName) (bytes : ByteArray) (maxL : Nat) (ret : Option FieldType) (rm : Room) (as' : Array Value) (h0 : Heap) (Q : Option Value → Heap → List Loc → Prop) : Prop :=
  ∀ ws : List Jvm.Cond, MetFree l y (head1 (Jvm.Cond.code y bytes maxL ret :: ws) rm) (fun a U => a = as' ∧ Z.Warmed39 U.vm ∧ U.heap = h0) (fun _ _ _ _ _ => True) (fun _ U o U' => ∃ v L, o = .returned v ∧ Q v U'.heap L ∧ FrameEnd U o U' L rm.cells rm.slots)
theorem Con.intro {y : MethodName} {bytes : ByteArray} {maxL : Nat} {ret : Option FieldType} {rm : Room} {as' : Array Value} {h0 : Heap} {Q : Option Value → Heap → List Loc → Prop} (hpl : plainFor y = true)
    (body : ∀ (p : Program) (e : Env) (s : State) (m : MethodId) (below : List Frame) (meth : Method) (c : Code) (s₁ : State), p.tables.exec = Jvm.exec → c.code = bytes → c.maxLocals = maxL → s.vm.findClass y.cls = some m.cls → meth.name = y.name → meth.sig.returnType = ret → meth.locks = false → Z.Warmed39 s.vm →
      Stand p l e rm s m as' below meth c s₁ [] 0 0 → s₁.heap = h0 → Ends p e below (Fini s Q rm.cells rm.slots) s₁ (entryFrame m as' maxL)) : Con l Z y bytes maxL ret rm as' h0 Q := by
  intro ws
  refine MetFree.of_bodySF hpl hisR ?_
  intro p e s m args below meth c s₁ Bd hml0 hP hK
  obtain ⟨rfl, hZ, hh⟩ := hP
  have X0 : Stand p l e rm s m args below meth c s₁ [] 0 0 := Stand.of_body Bd
  have e0 : s₁.heap = h0 := by rw [← hh, Bd.state]; rfl
  exact body p e s m below meth c s₁ Bd.exec Bd.bytes hml0 (findClass_of_methodNamed Bd.named) (name_of_methodNamed Bd.named Bd.method).1 Bd.returns Bd.notSynchronized hZ X0 e0
theorem Con.mono {y : MethodName} {bytes : ByteArray} {maxL : Nat} {ret : Option FieldType} {rm : Room} {as' : Array Value} {h0 : Heap} {Q Q' : Option Value → Heap → List Loc → Prop} (C : Con l Z y bytes maxL ret rm as' h0 Q) (hq : ∀ v h L, Q v h L → Q' v h L) : Con l Z y bytes maxL ret rm as' h0 Q' :=
  fun ws p e ha hc hk s m args below hf happ hP hK => let ⟨n, o, h1, h2, h3, v, L, r1, r2, r3⟩ := C ws p e ha hc hk s m args below hf happ hP hK; ⟨n, o, h1, h2, h3, v, L, r1, hq _ _ _ r2, r3⟩
theorem Ends.cast {g g' : JFrame} (q : g = g') (k : Ends p e below P T g') : Ends p e below P T g := q ▸ k
theorem Ends.retV (X : Stand p l e R s m args below meth c T locs cells slots) (hx : p.tables.exec = Jvm.exec) (hlk : meth.locks = false) {pc : Nat} {Ls : Array Slot} (hret : meth.sig.returnType = none) (hd : decode c.code pc = .ok (.return_, 1))
    {Q : Option Value → Heap → List Loc → Prop} {rc rs : Nat} (hc : cells ≤ rc) (hs : slots ≤ rs) (hQ : Q none T.heap locs) : Ends p e below (Fini s Q rc rs) T (mkF m pc Ls []) := by
  obtain ⟨fs, hr, hrun, hended, hW, hsame⟩ := X.leave (v := none) (fun _ => rfl) hlk
  exact ⟨_, _, X.returnOut hx hret hd hr, hrun, hended, _, _, rfl, hQ, ⟨_, rfl⟩, hW, hsame.mono hc hs⟩
theorem Ends.retI (X : Stand p l e R s m args below meth c T locs cells slots) (hx : p.tables.exec = Jvm.exec) (hlk : meth.locks = false) {pc : Nat} {Ls : Array Slot} {z : Int32} {rest : List Value} (hret : meth.sig.returnType = some .int) (hd : decode c.code pc = .ok (.ireturn, 1))
    {Q : Option Value → Heap → List Loc → Prop} {rc rs : Nat} (hc : cells ≤ rc) (hs : slots ≤ rs) (hQ : Q (some (.int z)) T.heap locs) : Ends p e below (Fini s Q rc rs) T (mkF m pc Ls (.int z :: rest)) := by
  obtain ⟨fs, hr, hrun, hended, hW, hsame⟩ := X.leave (v := some (.int z)) (fun h => by rw [hret] at h; cases h) hlk
  exact ⟨_, _, retOut X hx hret rfl (Or.inl ⟨rfl, Or.inl rfl, z, rfl⟩) hd hr, hrun, hended, _, _, rfl, hQ, ⟨_, rfl⟩, hW, hsame.mono hc hs⟩
theorem Ends.retL (X : Stand p l e R s m args below meth c T locs cells slots) (hx : p.tables.exec = Jvm.exec) (hlk : meth.locks = false) {pc : Nat} {Ls : Array Slot} {z : Int64} {rest : List Value} (hret : meth.sig.returnType = some .long) (hd : decode c.code pc = .ok (.lreturn, 1))
    {Q : Option Value → Heap → List Loc → Prop} {rc rs : Nat} (hc : cells ≤ rc) (hs : slots ≤ rs) (hQ : Q (some (.long z)) T.heap locs) : Ends p e below (Fini s Q rc rs) T (mkF m pc Ls (.long z :: rest)) := by
  obtain ⟨fs, hr, hrun, hended, hW, hsame⟩ := X.leave (v := some (.long z)) (fun h => by rw [hret] at h; cases h) hlk
  exact ⟨_, _, retOut X hx hret rfl (Or.inr (Or.inl ⟨rfl, rfl, z, rfl⟩)) hd hr, hrun, hended, _, _, rfl, hQ, ⟨_, rfl⟩, hW, hsame.mono hc hs⟩
theorem Ends.retA (X : Stand p l e R s m args below meth c T locs cells slots) (hx : p.tables.exec = Jvm.exec) (hlk : meth.locks = false) {pc : Nat} {Ls : Array Slot} {t : FieldType} {a : Addr} {rest : List Value} (hret : meth.sig.returnType = some t) (ht : t.isReference = true) (hn : narrow t (.ref a) = .ref a) (hd : decode c.code pc = .ok (.areturn, 1))
    {Q : Option Value → Heap → List Loc → Prop} {rc rs : Nat} (hc : cells ≤ rc) (hs : slots ≤ rs) (hQ : Q (some (.ref a)) T.heap locs) : Ends p e below (Fini s Q rc rs) T (mkF m pc Ls (.ref a :: rest)) := by
  obtain ⟨fs, hr, hrun, hended, hW, hsame⟩ := X.leave (v := some (.ref a)) (fun h => by rw [hret] at h; cases h) hlk
  exact ⟨_, _, retOut X hx hret hn (Or.inr (Or.inr (Or.inr (Or.inr ⟨rfl, ht, rfl⟩)))) hd hr, hrun, hended, _, _, rfl, hQ, ⟨_, rfl⟩, hW, hsame.mono hc hs⟩
/-- a boolean that is 0 or 1 -/
theorem Ends.retZ (X : Stand p l e R s m args below meth c T locs cells slots) (hx : p.tables.exec = Jvm.exec) (hlk : meth.locks = false) {pc : Nat} {Ls : Array Slot} {z : Int32} {rest : List Value} (hret : meth.sig.returnType = some .boolean) (hd : decode c.code pc = .ok (.ireturn, 1)) (h01 : z &&& 1 = z)
    {Q : Option Value → Heap → List Loc → Prop} {rc rs : Nat} (hc : cells ≤ rc) (hs : slots ≤ rs) (hQ : Q (some (.int z)) T.heap locs) : Ends p e below (Fini s Q rc rs) T (mkF m pc Ls (.int z :: rest)) := by
  obtain ⟨fs, hr, hrun, hended, hW, hsame⟩ := X.leave (v := some (.int z)) (fun h => by rw [hret] at h; cases h) hlk
  have hn : nar .boolean z = z := h01
  refine ⟨_, _, retN X hx (t := .boolean) hret (by simp) hd (fs := fs) ?_, hrun, hended, _, _, rfl, hQ, ⟨_, rfl⟩, hW, hsame.mono hc hs⟩
  rw [hn]; exact hr
/-- a static method by its contract -/
theorem Ends.callS (X : Stand p l e R s m args below meth c T locs cells slots) (hx : p.tables.exec = Jvm.exec) (hZ : Z.Warmed39 s.vm) {own : String} {index : Nat} {y : MethodName} {bytes : ByteArray} {maxL : Nat} {ret : Option FieldType}
    (hown : s.vm.findClass own = some m.cls) (w1 : (Jvm.Cond.methodLink own index y).before a0 Z = true) (w2 : (Jvm.Cond.static y).before a0 Z = true) (w3 : (Jvm.Cond.initialized y.cls).before a0 Z = true) (w4 : (Jvm.Cond.code y bytes maxL ret).before a0 Z = true)
    (hy : y.cls ≠ "java/lang/invoke/MethodHandle" ∧ y.cls ≠ "java/lang/invoke/VarHandle") {rm : Room} {argsL rest : List Value} {Q : Option Value → Heap → List Loc → Prop} (C : Con l Z y bytes maxL ret rm argsL.toArray h Q) (eT : T.heap = h)
    {pc : Nat} {Ls : Array Slot} (hsize : Ls.size = c.maxLocals) (hd : decode c.code pc = .ok (.invokestatic index, 3)) (hlen : ∀ sig, parseMethodDescriptor y.desc = some sig → argsL.length = sig.parameters.length)
    (W : Nat) (hW : (rest.map fun v => v.category).sum ≤ W) (hf : rm.frames + 1 ≤ R.frames) (hl : W + (maxL + 11) + rm.locals ≤ R.locals) (hc : cells + rm.cells ≤ R.cells) (hs : slots + rm.slots ≤ R.slots)
    (k : ∀ v T' L, Stand p l e R s m args below meth c T' (locs ++ L) (cells + rm.cells) (slots + rm.slots) → Q v T'.heap L → Ends p e below P T' (mkF m (pc + 3) Ls (v.toList ++ rest))) :
    Ends p e below P T (mkF m pc Ls (argsL.reverse ++ rest)) := by
  obtain ⟨v, _, ⟨T1, L1, k1, n1⟩, -, X1, ⟨Lc, hQ, l1, y1, z1⟩, st⟩ := Jvm.LawKit.callS X hx (y := y) hown (mvT hZ w1) (mvT hZ w2) (mvT hZ w3) (mvT hZ w4) hy (backOf (W := W) (C []) hZ w4 w3 hf hl) (g := mkF m pc Ls (argsL.reverse ++ rest)) rfl hsize (argsL := argsL) (rest := rest) hlen rfl (by show 2 * 0 + _ ≤ _; omega) hd (fun _ _ => ⟨rfl, eT, hc, hs⟩)
  dsimp only [Pt.U, Pt.locs, Pt.cells, Pt.slots] at X1 l1 y1 z1 st hQ
  subst l1 y1 z1
  exact Ends.by st (k v T1 Lc X1 hQ)
/-- a constructor by its contract -/
theorem Ends.callI (X : Stand p l e R s m args below meth c T locs cells slots) (hx : p.tables.exec = Jvm.exec) (hZ : Z.Warmed39 s.vm) {own : String} {index : Nat} {y : MethodName} {bytes : ByteArray} {maxL : Nat} (hy1 : y.name = "<init>")
    (hown : s.vm.findClass own = some m.cls) (w1 : (Jvm.Cond.methodLink own index y).before a0 Z = true) (w2 : (Jvm.Cond.instanceMethod y).before a0 Z = true) (w3 : (Jvm.Cond.initialized y.cls).before a0 Z = true) (w4 : (Jvm.Cond.code y bytes maxL none).before a0 Z = true)
    (hy : y.cls ≠ "java/lang/invoke/MethodHandle" ∧ y.cls ≠ "java/lang/invoke/VarHandle") {rm : Room} {a : Addr} {argsL rest : List Value} {Q : Option Value → Heap → List Loc → Prop} (C : Con l Z y bytes maxL none rm (.ref a :: argsL).toArray h Q) (eT : T.heap = h)
    {pc : Nat} {Ls : Array Slot} (hsize : Ls.size = c.maxLocals) (hd : decode c.code pc = .ok (.invokespecial index, 3)) (hlen : ∀ sig, parseMethodDescriptor y.desc = some sig → argsL.length = sig.parameters.length)
    (W : Nat) (hW : (rest.map fun v => v.category).sum ≤ W) (hf : rm.frames + 1 ≤ R.frames) (hl : W + (maxL + 11) + rm.locals ≤ R.locals) (hc : cells + rm.cells ≤ R.cells) (hs : slots + rm.slots ≤ R.slots)
    (k : ∀ v T' L, Stand p l e R s m args below meth c T' (locs ++ L) (cells + rm.cells) (slots + rm.slots) → Q v T'.heap L → Ends p e below P T' (mkF m (pc + 3) Ls (v.toList ++ rest))) :
    Ends p e below P T (mkF m pc Ls (argsL.reverse ++ .ref a :: rest)) := by
  obtain ⟨v, _, ⟨T1, L1, k1, n1⟩, -, X1, ⟨Lc, hQ, l1, y1, z1⟩, st⟩ := X.specialBack hx (y := y) hy1 hown (mvT hZ w1) (mvT hZ w2) (mvT hZ w4) hy (backOf (W := W) (C []) hZ w4 w3 hf hl) (g := mkF m pc Ls (argsL.reverse ++ .ref a :: rest)) rfl hsize (Steps.refl _) (a := a) (argsL := argsL) (rest := rest) hlen rfl (by show 2 * 0 + _ ≤ _; omega) hd (fun _ _ => ⟨rfl, eT, hc, hs⟩)
  dsimp only [Pt.U, Pt.locs, Pt.cells, Pt.slots] at X1 l1 y1 z1 st hQ
  subst l1 y1 z1
  exact Ends.on st (k v T1 Lc X1 hQ)
/-- an instance method, declared and selected in the receiver's own class -/
theorem Ends.callV (X : Stand p l e R s m args below meth c T locs cells slots) (hx : p.tables.exec = Jvm.exec) (hZ : Z.Warmed39 s.vm) {own : String} {index : Nat} {y : MethodName} {bytes : ByteArray} {maxL : Nat} {ret : Option FieldType}
    (hown : s.vm.findClass own = some m.cls) (w1 : (Jvm.Cond.methodLink own index y).before a0 Z = true) (wd : (Jvm.Cond.declares y).before a0 Z = true) (w2 : (Jvm.Cond.instanceMethod y).before a0 Z = true) (ws : (Jvm.Cond.selects y.cls y y).before a0 Z = true) (w3 : (Jvm.Cond.initialized y.cls).before a0 Z = true) (w4 : (Jvm.Cond.code y bytes maxL ret).before a0 Z = true)
    (hy : y.cls ≠ "java/lang/invoke/MethodHandle" ∧ y.cls ≠ "java/lang/invoke/VarHandle") {rm : Room} {a : Addr} {argsL rest : List Value} {Q : Option Value → Heap → List Loc → Prop} (C : Con l Z y bytes maxL ret rm (.ref a :: argsL).toArray h Q) (eT : T.heap = h) (E : Exa Z h a y.cls)
    {pc : Nat} {Ls : Array Slot} (hsize : Ls.size = c.maxLocals) (hd : decode c.code pc = .ok (.invokevirtual index, 3)) (hlen : ∀ sig, parseMethodDescriptor y.desc = some sig → argsL.length = sig.parameters.length)
    (W : Nat) (hW : (rest.map fun v => v.category).sum ≤ W) (hf : rm.frames + 1 ≤ R.frames) (hl : W + (maxL + 11) + rm.locals ≤ R.locals) (hc : cells + rm.cells ≤ R.cells) (hs : slots + rm.slots ≤ R.slots)
    (k : ∀ v T' L, Stand p l e R s m args below meth c T' (locs ++ L) (cells + rm.cells) (slots + rm.slots) → Q v T'.heap L → Ends p e below P T' (mkF m (pc + 3) Ls (v.toList ++ rest))) :
    Ends p e below P T (mkF m pc Ls (argsL.reverse ++ .ref a :: rest)) := by
  obtain ⟨cq, kq, qa, qb, qc⟩ := isOf (T := T) hZ eT E
  obtain ⟨v, _, ⟨T1, L1, k1, n1⟩, -, X1, ⟨Lc, hQ, l1, y1, z1⟩, st⟩ := X.virtualBack hx (y := y) (z := y) hown (mvT hZ w1) (mvT hZ wd) (notFace_of_selects (args := #[]) (mvT hZ ws)) (mvT hZ ws) (mvT hZ w2) hy (backOf (W := W) (C []) hZ w4 w3 hf hl) qa qc (g := mkF m pc Ls (argsL.reverse ++ .ref a :: rest)) rfl hsize (Steps.refl _) (argsL := argsL) (rest := rest) hlen rfl (by show 2 * 0 + _ ≤ _; omega) hd (fun _ _ => ⟨rfl, eT, hc, hs⟩)
  dsimp only [Pt.U, Pt.locs, Pt.cells, Pt.slots] at X1 l1 y1 z1 st hQ
  subst l1 y1 z1
  exact Ends.on st (k v T1 Lc X1 hQ)
/-- nothing is written, nothing made: it returns v -/
def Pure (h0 : Heap) (r : Option Value) (v : Option Value) (h : Heap) (L : List Loc) : Prop := v = r ∧ h = h0 ∧ L = []
/-- the six comparisons, both ways at once -/
theorem Ends.icmp (X : Stand p l e R s m args below meth c T locs cells slots) (hx : p.tables.exec = Jvm.exec) {cd : ClassFile.Cond} {x y : Int32} {o : Int} {pc : Nat} {Ls : Array Slot} {rest : List Value} (hd : decode c.code pc = .ok (.if_icmp cd o, 3)) (pc' : Nat) (ho : 0 ≤ (pc : Int) + o) (hp : ((pc : Int) + o).toNat = pc')
    (kT : if_icmp.holds cd x y = true → Ends p e below P T (mkF m pc' Ls rest)) (kF : if_icmp.holds cd x y = false → Ends p e below P T (mkF m (pc + 3) Ls rest)) : Ends p e below P T (mkF m pc Ls (.int y :: .int x :: rest)) := by
  rcases hb : if_icmp.holds cd x y with _ | _
  · exact Ends.by (fun _ => XS.icmpNo X.here hx rfl hd rfl hb) (kF hb)
  · exact Ends.by (fun _ => XS.icmpYes X.here hx rfl (pc0 := pc) (pc' := pc') rfl hd rfl hb ho hp) (kT hb)
theorem own_wrap {x y : Int} (h : (x - y) % 4294967296 = 0) (r : -2147483648 ≤ x ∧ x < 2147483648) (b : -2147483648 ≤ y ∧ y < 2147483648) : x = y := by omega
theorem own_andor (x a b : Int32) : (x &&& a) ||| (x &&& b) = x &&& (a ||| b) := by
  apply Int32.toBitVec_inj.mp
  rw [Int32.toBitVec_or, Int32.toBitVec_and, Int32.toBitVec_and, Int32.toBitVec_and, Int32.toBitVec_or, ← BitVec.and_or_distrib_left]
theorem own_lt {x y : Int32} : (if_icmp.holds .lt x y = true → x < y) ∧ (if_icmp.holds .lt x y = false → ¬ x < y) := ⟨fun q => Classical.byContradiction fun n => (by rw [(flt n).1] at q; cases q), fun q n => (by rw [(tlt n).1] at q; cases q)⟩
theorem own_ge {x y : Int32} : (if_icmp.holds .ge x y = true → ¬ x < y) ∧ (if_icmp.holds .ge x y = false → x < y) := ⟨fun q n => (by rw [(tlt n).2.1] at q; cases q), fun q => Classical.byContradiction fun n => (by rw [(flt n).2.1] at q; cases q)⟩
theorem own_gt {x y : Int32} : (if_icmp.holds .gt x y = true → y < x) ∧ (if_icmp.holds .gt x y = false → ¬ y < x) := ⟨fun q => Classical.byContradiction fun n => (by rw [(flt n).2.2.1] at q; cases q), fun q n => (by rw [(tlt n).2.2.1] at q; cases q)⟩
theorem own_le {x y : Int32} : (if_icmp.holds .le x y = true → ¬ y < x) ∧ (if_icmp.holds .le x y = false → y < x) := ⟨fun q n => (by rw [(tlt n).2.2.2] at q; cases q), fun q => Classical.byContradiction fun n => (by rw [(flt n).2.2.2] at q; cases q)⟩
theorem own_eq {x y : Int32} : (if_icmp.holds .eq x y = true → x = y) ∧ (if_icmp.holds .eq x y = false → ¬ x = y) := ⟨fun q => Classical.byContradiction fun n => (by rw [(feq n).1] at q; cases q), fun q n => (by rw [(teq n).1] at q; cases q)⟩
theorem own_ne {x y : Int32} : (if_icmp.holds .ne x y = true → ¬ x = y) ∧ (if_icmp.holds .ne x y = false → x = y) := ⟨fun q n => (by rw [(teq n).2] at q; cases q), fun q => Classical.byContradiction fun n => (by rw [(feq n).2] at q; cases q)⟩
theorem Ends.ifc (X : Stand p l e R s m args below meth c T locs cells slots) (hx : p.tables.exec = Jvm.exec) {cd : ClassFile.Cond} {x : Int32} {o : Int} {pc : Nat} {Ls : Array Slot} {rest : List Value} (hd : decode c.code pc = .ok (.ifCond cd o, 3)) (pc' : Nat) (ho : 0 ≤ (pc : Int) + o) (hp : ((pc : Int) + o).toNat = pc')
    (kT : if_icmp.holds cd x 0 = true → Ends p e below P T (mkF m pc' Ls rest)) (kF : if_icmp.holds cd x 0 = false → Ends p e below P T (mkF m (pc + 3) Ls rest)) : Ends p e below P T (mkF m pc Ls (.int x :: rest)) := by
  rcases hb : if_icmp.holds cd x 0 with _ | _
  · exact Ends.by (fun _ => XS.ifNo X.here hx rfl hd rfl ((if0 _ _).trans hb)) (kF hb)
  · exact Ends.by (fun _ => XS.ifYes X.here hx rfl (pc0 := pc) (pc' := pc') rfl hd rfl ((if0 _ _).trans hb) ho hp) (kT hb)
end Own
end Jvm.Pilot.@@N@@
namespace Jvm.Pilot.@@N@@
open Jvm Jvm.ClassFile Sem Op Lib Jvm.Free Jvm.Stand Jvm.LawKit Jvm.RoadKit Bundle Jvm.Pilot.@@N@@.Jvm.D
section Own2
variable {p : Program} {l : Launch} {e : Env} {R : Room} {s : State} {m : MethodId} {args : Array Value} {below : List Frame} {meth : Method} {c : Code} {T T' Z : State} {locs : List Loc} {cells slots : Nat} {P : Outcome → State → Prop} {a0 : Array Value} {h h' h0 : Heap} {a b : Addr} {ty : FieldType} {n k n0 : Nat} {f : Nat → Value} {ws : List Addr}
/-- g with v at the place k -/
def upd {α : Type} (g : Nat → α) (k : Nat) (v : α) : Nat → α := fun i => if i = k then v else g i
theorem upd_hit {α : Type} (g : Nat → α) (k : Nat) (v : α) : upd g k v k = v := if_pos rfl
theorem upd_miss {α : Type} (g : Nat → α) {k i : Nat} (v : α) (q : i ≠ k) : upd g k v i = g i := if_neg q
/-- an array of n elements, the i-th is f i -/
def Af (Z : State) (h : Heap) (a : Addr) (ty : FieldType) (n : Nat) (f : Nat → Value) : Prop :=
  ∃ c : Cell, Arr Z h a c ty ∧ c.slots.size = n ∧ n < 2147483648 ∧ (∀ i, i < n → c.slots[i]? = some (f i)) ∧ ∀ i, i < n → fits ty (f i) = true
theorem Af.lt (F : Af Z h a ty n f) : a < h.size := by obtain ⟨c, A, -⟩ := F; exact A.lt
theorem Af.small (F : Af Z h a ty n f) : n < 2147483648 := by obtain ⟨c, -, -, q, -⟩ := F; exact q
theorem Af.ext (F : Af Z h a ty n f) (E : Ext h h') : Af Z h' a ty n f := by obtain ⟨c, A, r⟩ := F; exact ⟨c, A.ext E, r⟩
theorem Af.keep (F : Af Z h a ty n f) (K : Keep h h' ws) (q : a ∉ ws) : Af Z h' a ty n f := by obtain ⟨c, A, r⟩ := F; exact ⟨c, ⟨K.2.1 a c A.1 q, A.2⟩, r⟩
theorem Af.other {sl : Nat} {v : Value} (F : Af Z h b ty n f) (W : Wr h h' a sl v) (q : b ≠ a) : Af Z h' b ty n f := by obtain ⟨c, A, r⟩ := F; exact ⟨c, A.other W q, r⟩
theorem Af.congr {f' : Nat → Value} (F : Af Z h a ty n f) (q : ∀ i, i < n → f' i = f i) : Af Z h a ty n f' := by
  obtain ⟨c, A, r1, r2, r3, r4⟩ := F; exact ⟨c, A, r1, r2, fun i hi => by rw [q i hi]; exact r3 i hi, fun i hi => by rw [q i hi]; exact r4 i hi⟩
theorem Af.set {v : Value} (F : Af Z h a ty n f) (W : Wr h h' a k v) (hk : k < n) (hv : fits ty v = true) : Af Z h' a ty n (upd f k v) := by
  obtain ⟨c, A, r1, r2, r3, r4⟩ := F
  refine ⟨c.setSlot k v, A.same W, by rw [sz_set]; exact r1, r2, fun i hi => ?_, fun i hi => ?_⟩
  · by_cases q : i = k
    · subst q; rw [upd_hit]; simp [Cell.setSlot, r1, hi]
    · rw [upd_miss _ _ q, ← r3 i hi]; simp [Cell.setSlot, Array.getElem?_setIfInBounds, Ne.symm q]
  · by_cases q : i = k
    · subst q; rw [upd_hit]; exact hv
    · rw [upd_miss _ _ q]; exact r4 i hi
theorem Af.new {k : ClassId} {z : Int32} (A : Arr Z h a (newA k ty z) ty) (q : z.toInt = (n : Int)) (hd : fits ty (defaultValue ty) = true) : Af Z h a ty n (fun _ => defaultValue ty) := by
  have e : z.toNatClampNeg = n := by show z.toInt.toNat = n; omega
  have r := z.toInt_lt
  refine ⟨_, A, by rw [sz_new, e], by omega, fun i hi => ?_, fun i _ => hd⟩
  simp [newA, e, hi]
theorem own_idx {j : Int32} (q : j.toInt = (k : Int)) : j.toNatClampNeg = k ∧ ¬ j < 0 := by
  refine ⟨by show j.toInt.toNat = k; omega, ?_⟩
  rw [Int32.lt_iff_toInt_lt]; have : (0 : Int32).toInt = 0 := rfl; omega
theorem own_inb {j : Int32} {c : Cell} (S : c.slots.size = n) (q : j.toInt = (k : Int)) (hk : k < n) : ¬ (j < 0 ∨ c.slots.size ≤ j.toNatClampNeg) := by
  obtain ⟨q1, q2⟩ := own_idx q
  rw [S, q1]; intro o; rcases o with o | o
  · exact q2 o
  · omega
/-- the array's length -/
theorem Ends.len (X : Stand p l e R s m args below meth c T locs cells slots) (hx : p.tables.exec = Jvm.exec) (hZ : Z.Warmed39 s.vm) (eT : T.heap = h) (F : Af Z h a ty n f) {z : Int32} (hz : z.toInt = (n : Int)) {pc : Nat} {Ls : Array Slot} {rest : List Value} (hd : decode c.code pc = .ok (.arraylength, 1))
    (kk : Ends p e below P T (mkF m (pc + 1) Ls (.int z :: rest))) : Ends p e below P T (mkF m pc Ls (.ref a :: rest)) := by
  obtain ⟨cl, A, r1, r2, -⟩ := F
  refine Ends.by (fun t => X.arraylength hx (by rw [eT]; exact A.1) (State.isArrayOf_alike hZ.alike A.2.1) (g := mkF m pc Ls (.ref a :: rest)) rfl rfl hd t) ?_
  have q : cl.slots.size.toInt32 = z := by
    apply Int32.toInt_inj.mp; rw [r1, hz]; exact Int32.toInt_ofNat_of_lt (by omega)
  rw [q]; exact kk
theorem Ends.ldB (X : Stand p l e R s m args below meth c T locs cells slots) (hx : p.tables.exec = Jvm.exec) (hZ : Z.Warmed39 s.vm) (eT : T.heap = h) (F : Af Z h a .byte n f) {j : Int32} (hj : j.toInt = (k : Int)) (hk : k < n) {v : Value} (hv : f k = v) {pc : Nat} {Ls : Array Slot} {rest : List Value} (hd : decode c.code pc = .ok (.baload, 1))
    (kk : Ends p e below P T (mkF m (pc + 1) Ls (v :: rest))) : Ends p e below P T (mkF m pc Ls (.int j :: .ref a :: rest)) := by
  obtain ⟨cl, A, r1, r2, r3, -⟩ := F
  exact Ends.by (fun t => X.baloadBytes hx (j := j) (v := v) (by rw [eT]; exact A.1) (State.isArrayOf_alike hZ.alike A.2.1) A.2.2 (own_inb r1 hj hk) (by rw [(own_idx hj).1, ← hv]; exact r3 k hk) (g := mkF m pc Ls (.int j :: .ref a :: rest)) rfl rfl hd t) kk
theorem Ends.ldI (X : Stand p l e R s m args below meth c T locs cells slots) (hx : p.tables.exec = Jvm.exec) (hZ : Z.Warmed39 s.vm) (eT : T.heap = h) (F : Af Z h a .int n f) {j : Int32} (hj : j.toInt = (k : Int)) (hk : k < n) {v : Value} (hv : f k = v) {pc : Nat} {Ls : Array Slot} {rest : List Value} (hd : decode c.code pc = .ok (.iaload, 1))
    (kk : Ends p e below P T (mkF m (pc + 1) Ls (v :: rest))) : Ends p e below P T (mkF m pc Ls (.int j :: .ref a :: rest)) := by
  obtain ⟨cl, A, r1, r2, r3, -⟩ := F
  exact Ends.by (fun t => X.iaload hx (j := j) (v := v) (by rw [eT]; exact A.1) (State.isArrayOf_alike hZ.alike A.2.1) A.2.2 (own_inb r1 hj hk) (by rw [(own_idx hj).1, ← hv]; exact r3 k hk) (g := mkF m pc Ls (.int j :: .ref a :: rest)) rfl rfl hd t) kk
theorem Ends.ldJ (X : Stand p l e R s m args below meth c T locs cells slots) (hx : p.tables.exec = Jvm.exec) (hZ : Z.Warmed39 s.vm) (eT : T.heap = h) (F : Af Z h a .long n f) {j : Int32} (hj : j.toInt = (k : Int)) (hk : k < n) {v : Value} (hv : f k = v) {pc : Nat} {Ls : Array Slot} {rest : List Value} (hd : decode c.code pc = .ok (.laload, 1))
    (kk : Ends p e below P T (mkF m (pc + 1) Ls (v :: rest))) : Ends p e below P T (mkF m pc Ls (.int j :: .ref a :: rest)) := by
  obtain ⟨cl, A, r1, r2, r3, -⟩ := F
  exact Ends.by (fun t => X.laload hx (j := j) (v := v) (by rw [eT]; exact A.1) (State.isArrayOf_alike hZ.alike A.2.1) A.2.2 (own_inb r1 hj hk) (by rw [(own_idx hj).1, ← hv]; exact r3 k hk) (g := mkF m pc Ls (.int j :: .ref a :: rest)) rfl rfl hd t) kk
theorem own_snoc {sl : Nat} (N : Fr n0 locs) (q : n0 ≤ a) : Fr n0 (locs ++ [⟨a, sl⟩]) := N.app fun y hy => by cases List.mem_singleton.mp hy; exact q
theorem Ends.stB (X : Stand p l e R s m args below meth c T locs cells slots) (hx : p.tables.exec = Jvm.exec) (hZ : Z.Warmed39 s.vm) (eT : T.heap = h) (N : Fr n0 locs) (ge : n0 ≤ a) (F : Af Z h a .byte n f) {j x : Int32} (hj : j.toInt = (k : Int)) (hk : k < n) {pc : Nat} {Ls : Array Slot} {rest : List Value} (hd : decode c.code pc = .ok (.bastore, 1))
    (kk : ∀ T' h' L', Stand p l e R s m args below meth c T' L' cells slots → T'.heap = h' → Fr n0 L' → Wr h h' a k (.int x.toInt8.toInt32) → Af Z h' a .byte n (upd f k (.int x.toInt8.toInt32)) → Ends p e below P T' (mkF m (pc + 1) Ls rest)) : Ends p e below P T (mkF m pc Ls (.int x :: .int j :: .ref a :: rest)) := by
  obtain ⟨cl, A, r1, r2, r3, r4⟩ := F
  obtain ⟨T1, h1, X1, e1, W1, st⟩ := Jvm.RoadKit.stB X hx hZ eT A (j := j) (x := x) (own_inb r1 hj hk) (g := mkF m pc Ls (.int x :: .int j :: .ref a :: rest)) rfl rfl hd
  rw [(own_idx hj).1] at W1
  have W2 : Wr h h1 a k (.int x.toInt8.toInt32) := W1
  exact Ends.by st (kk T1 h1 _ X1 e1 (own_snoc N ge) W2 (Af.set ⟨cl, A, r1, r2, r3, r4⟩ W2 hk (fits_nar_byte x)))
theorem Ends.stI (X : Stand p l e R s m args below meth c T locs cells slots) (hx : p.tables.exec = Jvm.exec) (hZ : Z.Warmed39 s.vm) (eT : T.heap = h) (N : Fr n0 locs) (ge : n0 ≤ a) (F : Af Z h a .int n f) {j x : Int32} (hj : j.toInt = (k : Int)) (hk : k < n) {pc : Nat} {Ls : Array Slot} {rest : List Value} (hd : decode c.code pc = .ok (.iastore, 1))
    (kk : ∀ T' h' L', Stand p l e R s m args below meth c T' L' cells slots → T'.heap = h' → Fr n0 L' → Wr h h' a k (.int x) → Af Z h' a .int n (upd f k (.int x)) → Ends p e below P T' (mkF m (pc + 1) Ls rest)) : Ends p e below P T (mkF m pc Ls (.int x :: .int j :: .ref a :: rest)) := by
  obtain ⟨cl, A, r1, r2, r3, r4⟩ := F
  obtain ⟨T1, h1, X1, e1, W1, st⟩ := Jvm.RoadKit.stI X hx hZ eT A (j := j) (x := x) (own_inb r1 hj hk) (g := mkF m pc Ls (.int x :: .int j :: .ref a :: rest)) rfl rfl hd
  rw [(own_idx hj).1] at W1
  exact Ends.by st (kk T1 h1 _ X1 e1 (own_snoc N ge) W1 (Af.set ⟨cl, A, r1, r2, r3, r4⟩ W1 hk rfl))
theorem Ends.stJ (X : Stand p l e R s m args below meth c T locs cells slots) (hx : p.tables.exec = Jvm.exec) (hZ : Z.Warmed39 s.vm) (eT : T.heap = h) (N : Fr n0 locs) (ge : n0 ≤ a) (F : Af Z h a .long n f) {j : Int32} {x : Int64} (hj : j.toInt = (k : Int)) (hk : k < n) {pc : Nat} {Ls : Array Slot} {rest : List Value} (hd : decode c.code pc = .ok (.lastore, 1))
    (kk : ∀ T' h' L', Stand p l e R s m args below meth c T' L' cells slots → T'.heap = h' → Fr n0 L' → Wr h h' a k (.long x) → Af Z h' a .long n (upd f k (.long x)) → Ends p e below P T' (mkF m (pc + 1) Ls rest)) : Ends p e below P T (mkF m pc Ls (.long x :: .int j :: .ref a :: rest)) := by
  obtain ⟨cl, A, r1, r2, r3, r4⟩ := F
  obtain ⟨T1, h1, X1, e1, W1, st⟩ := Jvm.RoadKit.stJ X hx hZ eT A (j := j) (x := x) (own_inb r1 hj hk) (g := mkF m pc Ls (.long x :: .int j :: .ref a :: rest)) rfl rfl hd
  rw [(own_idx hj).1] at W1
  exact Ends.by st (kk T1 h1 _ X1 e1 (own_snoc N ge) W1 (Af.set ⟨cl, A, r1, r2, r3, r4⟩ W1 hk rfl))
/-- a new array of bytes, ints, longs .. -/
theorem Ends.newA (X : Stand p l e R s m args below meth c T locs cells slots) (hx : p.tables.exec = Jvm.exec) (hZ : Z.Warmed39 s.vm) {aty : ArrayType} (w : (Jvm.Cond.arrayClass (newarray.typeOf aty)).before a0 Z = true) (eT : T.heap = h) {z : Int32} (hz : z.toInt = (n : Int)) (cap : Nat) (hcap : n ≤ cap) (hb : cap * 8 ≤ 536870912) (hc : cells + 1 ≤ R.cells) (hl : slots + cap ≤ R.slots) (hdf : fits (newarray.typeOf aty) (defaultValue (newarray.typeOf aty)) = true)
    {ad : String} (had : "[" ++ (newarray.typeOf aty).toString = ad) {pc : Nat} {Ls : Array Slot} {rest : List Value} (hd : decode c.code pc = .ok (.newarray aty, 2))
    (kk : ∀ T' h', Stand p l e R s m args below meth c T' locs (cells + 1) (slots + cap) → T'.heap = h' → Ext h h' → Af Z h' h.size (newarray.typeOf aty) n (fun _ => defaultValue (newarray.typeOf aty)) → Exa Z h' h.size ad → Ends p e below P T' (mkF m (pc + 2) Ls (.ref h.size :: rest))) : Ends p e below P T (mkF m pc Ls (.int z :: rest)) := by
  obtain ⟨q1, q2⟩ := own_idx hz
  obtain ⟨T1, h1, cA, X1, e1, E1, A1, Ex1, st⟩ := newPE X hx hZ w eT (g := mkF m pc Ls (.int z :: rest)) rfl hd rfl q2 (cap := cap) (by rw [q1]; exact hcap) hb hc hl had
  exact Ends.by st (kk T1 h1 X1 e1 E1 (Af.new A1 hz hdf) Ex1)
theorem own_updL (g : Nat → Int64) (k : Nat) (x : Int64) (q : Nat) : Value.long (upd g k x q) = upd (fun q => Value.long (g q)) k (.long x) q := by
  unfold upd; split <;> rfl
theorem own_updI (g : Nat → Int32) (k : Nat) (x : Int32) (q : Nat) : Value.int (upd g k x q) = upd (fun q => Value.int (g q)) k (.int x) q := by
  unfold upd; split <;> rfl
/-- an array's clone -/
theorem Ends.clone (X : Stand p l e R s m args below meth c T locs cells slots) (hx : p.tables.exec = Jvm.exec) (hZ : Z.Warmed39 s.vm) {own ad : String} {index : Nat} (hown : s.vm.findClass own = some m.cls)
    (w1 : (Jvm.Cond.methodLink own index ⟨ad, "clone", "()Ljava/lang/Object;"⟩).before a0 Z = true) (w2 : (Jvm.Cond.sameMethod ad "java/lang/Object" "clone" "()Ljava/lang/Object;").before a0 Z = true) (w3 : (Jvm.Cond.native ⟨"java/lang/Object", "clone", "()Ljava/lang/Object;"⟩).before a0 Z = true)
    (w4 : (Jvm.Cond.instanceMethod ⟨"java/lang/Object", "clone", "()Ljava/lang/Object;"⟩).before a0 Z = true) (w5 : (Jvm.Cond.selects ad ⟨ad, "clone", "()Ljava/lang/Object;"⟩ ⟨"java/lang/Object", "clone", "()Ljava/lang/Object;"⟩).before a0 Z = true) (w6 : (Jvm.Cond.castable ad "java/lang/Cloneable").before a0 Z = true)
    (eT : T.heap = h) (F : Af Z h a ty n f) (E : Exa Z h a ad) (W : Nat) {rest : List Value} (hW : (rest.map fun v => v.category).sum ≤ W) {pc : Nat} {Ls : Array Slot} (hsize : Ls.size = c.maxLocals) (hd : decode c.code pc = .ok (.invokevirtual index, 3))
    (hf : 1 ≤ R.frames) (hl : W + 14 ≤ R.locals) (hty : refKind ty = false) (cap : Nat) (hcap : n ≤ cap) (hc : cells + 1 ≤ R.cells) (hsl : slots + cap ≤ R.slots)
    (kk : ∀ T' h', Stand p l e R s m args below meth c T' locs (cells + 1) (slots + cap) → T'.heap = h' → Ext h h' → Af Z h' h.size ty n f → Exa Z h' h.size ad → Ends p e below P T' (mkF m (pc + 3) Ls (.ref h.size :: rest))) : Ends p e below P T (mkF m pc Ls (.ref a :: rest)) := by
  obtain ⟨cl, A, r1, r2, r3, r4⟩ := F
  have FC : FitC Z cl := fitC_of A fun i hi v hv => by rw [r3 i (r1 ▸ hi)] at hv; cases hv; exact r4 i (r1 ▸ hi)
  obtain ⟨T1, h1, X1, e1, E1, A1, Ex1, st⟩ := cloneA X hx hZ hown w1 w2 w3 w4 w5 w6 eT A E FC (g := mkF m pc Ls (.ref a :: rest)) rfl hsize rfl hd hf (W := W) (by show 2 * 0 + _ ≤ _; omega) hl (cap := cap) (by rw [r1]; exact hcap) hc hsl
  exact Ends.by st (kk T1 h1 X1 e1 E1 ⟨_, A1, r1, r2, r3, r4⟩ Ex1)
theorem own_apart {C : String} (F : Exa Z h a C) (G : Af Z h b ty n f) {kk : Nat} (wi : (Jvm.Cond.instantiable C kk).before a0 Z = true) : a ≠ b := by
  obtain ⟨cl, A, -⟩ := G; exact ne_arr F wi A
end Own2
end Jvm.Pilot.@@N@@
namespace Jvm.Pilot.@@N@@
open Jvm Jvm.ClassFile Sem Op Lib Jvm.Free Jvm.Stand Jvm.LawKit Jvm.RoadKit Bundle Jvm.Pilot.@@N@@.Jvm.D
def own_bit (i : Int32) : Int64 := (1 : Int64) <<< (i &&& 0x3f).toInt64
theorem own_j {i : Int32} {N : Nat} (h : i.toInt = (N : Int)) : ((i.toUInt32 >>> ((6 : Int32) &&& 31).toUInt32).toInt32).toInt = ((N / 64 : Nat) : Int) := by
  have e := c_iushr i 6 6 (by decide) (by decide)
  have r := rng32 i
  rw [e, h]
  have : (2 ^ 6 : Nat) = 64 := by decide
  omega
theorem d1_0 : decode prog_7_method_1_code 0 = .ok (.aload_n 0, 1) := by decide +kernel
theorem d1_1 : decode prog_7_method_1_code 1 = .ok (.invokespecial 1, 3) := by decide +kernel
theorem d1_4 : decode prog_7_method_1_code 4 = .ok (.aload_n 0, 1) := by decide +kernel
theorem d1_5 : decode prog_7_method_1_code 5 = .ok (.iload_n 1, 1) := by decide +kernel
theorem d1_6 : decode prog_7_method_1_code 6 = .ok (.bipush 63, 2) := by decide +kernel
theorem d1_8 : decode prog_7_method_1_code 8 = .ok (.iadd, 1) := by decide +kernel
theorem d1_9 : decode prog_7_method_1_code 9 = .ok (.bipush 6, 2) := by decide +kernel
theorem d1_11 : decode prog_7_method_1_code 11 = .ok (.iushr, 1) := by decide +kernel
theorem d1_12 : decode prog_7_method_1_code 12 = .ok (.newarray .long, 2) := by decide +kernel
theorem d1_14 : decode prog_7_method_1_code 14 = .ok (.putfield 7, 3) := by decide +kernel
theorem d1_17 : decode prog_7_method_1_code 17 = .ok (.return_, 1) := by decide +kernel
theorem pd_1 : parseMethodDescriptor "(I)V" = some ⟨[.int], none⟩ := by decide +kernel
theorem pf_1 : plainFor (⟨"com/example/tiefast/tiefast/Bits", "<init>", "(I)V"⟩ : MethodName) = true := plainFor_of_name (by first | (simp [plainName, overriddenIn, x]; done) | decide +kernel)
theorem ef_1 (m : MethodId) (a : Addr) (n : Int32) : entryFrame m #[(.ref a), (.int n)] 2 = mkF m 0 #[.val (.ref a), .val (.int n)] [] := by first | (simp [entryFrame, mkF, argsToLocals, Value.category]; done) | rfl
set_option maxRecDepth 65536 in
set_option maxHeartbeats 40000000 in
theorem con_1 (l : Launch) (Z : State) (a0 : Array Value) (hw : ∀ d ∈ tables_1, d.before a0 Z = true) (a : Addr) (n : Int32) (k : Nat) (h0 : Heap) (n0 : Nat) (Z0 : n0 ≤ h0.size) (E0 : Exa Z h0 a "com/example/tiefast/tiefast/Bits") (F1 : Fld Z h0 a "com/example/tiefast/tiefast/Bits" "words" "[J" .null) (ga : n0 ≤ a) (hk : (((n + 63).toUInt32 >>> ((6 : Int32) &&& 31).toUInt32).toInt32).toInt = (k : Int)) (hk4 : k ≤ 4) : Con l Z (⟨"com/example/tiefast/tiefast/Bits", "<init>", "(I)V"⟩ : MethodName) prog_7_method_1_code 2 none ({ frames := 1, cells := 1, slots := 4, locals := 12 } : Room) #[(.ref a), (.int n)] h0 (fun v h L => ∃ ar : Addr, v = none ∧ Fr n0 L ∧ Keep h0 h [a] ∧ Exa Z h a "com/example/tiefast/tiefast/Bits" ∧ Fld Z h a "com/example/tiefast/tiefast/Bits" "words" "[J" (.ref ar) ∧ Af Z h ar .long k (fun _ => .long (0 : Int64)) ∧ n0 ≤ ar) := by
  refine Con.intro pf_1 ?_
  intro p e s m below meth c s₁ hx hby hml hown hnm hret hlk hZ X0 e0
  refine Ends.cast (ef_1 m a n) ?_
  have N0 := Fr.nil n0
  have K0 : Keep h0 h0 [a] := Keep.refl _ _
  refine Ends.by (fun _ => XS.aloadN X0.here hx rfl (hb hby d1_0) rfl rfl) ?_
  show Ends p e below _ s₁ (mkF m 1 #[.val (.ref a), .val (.int n)] [(.ref a)])
  obtain ⟨T1, X1, e1, st1⟩ := initO X0 hx hZ hown (hw _ (List.mem_of_getElem? (i := 7) rfl)) (hw _ (List.mem_of_getElem? (i := 8) rfl)) (hw _ (List.mem_of_getElem? (i := 9) rfl)) e0 (g := (mkF m 1 #[.val (.ref a), .val (.int n)] [(.ref a)])) rfl (by rw [hml]; rfl) rfl (hb hby d1_1) (by decide) (W := 0) (by show 2 * 0 + _ ≤ _; exact Nat.le_of_eq rfl) (by decide)
  refine Ends.by st1 ?_
  show Ends p e below _ T1 (mkF m 4 #[.val (.ref a), .val (.int n)] [])
  refine Ends.by (fun _ => XS.aloadN X1.here hx rfl (hb hby d1_4) rfl rfl) ?_
  show Ends p e below _ T1 (mkF m 5 #[.val (.ref a), .val (.int n)] [(.ref a)])
  refine Ends.by (fun _ => XS.iloadN X1.here hx rfl (hb hby d1_5) rfl) ?_
  show Ends p e below _ T1 (mkF m 6 #[.val (.ref a), .val (.int n)] [(.int n), (.ref a)])
  refine Ends.by (fun _ => XS.bipush X1.here hx rfl (hb hby d1_6)) ?_
  show Ends p e below _ T1 (mkF m 8 #[.val (.ref a), .val (.int n)] [(.int (63 : Int32)), (.int n), (.ref a)])
  refine Ends.by (fun _ => XS.iadd X1.here hx rfl (hb hby d1_8) rfl) ?_
  show Ends p e below _ T1 (mkF m 9 #[.val (.ref a), .val (.int n)] [(.int (n + (63 : Int32))), (.ref a)])
  refine Ends.by (fun _ => XS.bipush X1.here hx rfl (hb hby d1_9)) ?_
  show Ends p e below _ T1 (mkF m 11 #[.val (.ref a), .val (.int n)] [(.int (6 : Int32)), (.int (n + (63 : Int32))), (.ref a)])
  refine Ends.by (fun _ => XS.iushr X1.here hx rfl (hb hby d1_11) rfl) ?_
  show Ends p e below _ T1 (mkF m 12 #[.val (.ref a), .val (.int n)] [(.int (((n + (63 : Int32)).toUInt32 >>> ((6 : Int32) &&& 31).toUInt32).toInt32)), (.ref a)])
  refine Ends.newA X1 hx hZ (hw _ (List.mem_of_getElem? (i := 10) rfl)) e1 hk 4 hk4 (by decide) (by decide) (by decide) rfl (ad := "[J") (by decide) (hb hby d1_12) ?_
  intro T2 h2 X2 e2 E2 A2 Q2
  obtain ⟨b2, g2⟩ : ∃ z, z = h0.size := ⟨_, rfl⟩
  rw [← g2] at A2 Q2 ⊢
  have E_a_2 : Exa Z h2 a "com/example/tiefast/tiefast/Bits" := E0.ext E2
  have F_a_words_2 : Fld Z h2 a "com/example/tiefast/tiefast/Bits" "words" "[J" .null := F1.ext E2
  have Z2 : n0 ≤ h2.size := Nat.le_trans Z0 E2.1
  have K2 : Keep h0 h2 [a] := K0.ext E2
  have g_b2 : n0 ≤ b2 := Nat.le_trans Z0 (Nat.le_of_eq g2.symm)
  have gz_b2 : h0.size ≤ b2 := Nat.le_trans K0.1 (Nat.le_of_eq g2.symm)
  have ne_a_b2 : a ≠ b2 := Nat.ne_of_lt (Nat.lt_of_lt_of_le E0.lt (Nat.le_of_eq g2.symm))
  have A_b2 : Af Z h2 b2 .long k (fun q => .long ((fun _ => (0 : Int64)) q)) := A2
  show Ends p e below _ T2 (mkF m 14 #[.val (.ref a), .val (.int n)] [(.ref b2), (.ref a)])
  obtain ⟨T3, h3, X3, e3, W3, st3⟩ := putF X2 hx hZ hown (host := "") (Or.inl (hw _ (List.mem_of_getElem? (i := 11) rfl))) Via.refl e2 F_a_words_2 E_a_2 (Or.inr ⟨(hw _ (List.mem_of_getElem? (i := 12) rfl)), rfl, hnm⟩) (hw _ (List.mem_of_getElem? (i := 2) rfl)) (ty := (.array .long)) (by decide) rfl rfl (g := (mkF m 14 #[.val (.ref a), .val (.int n)] [(.ref b2), (.ref a)])) rfl rfl (hb hby d1_14)
  refine Ends.by st3 ?_
  have F_a_words_3 : Fld Z h3 a "com/example/tiefast/tiefast/Bits" "words" "[J" (.ref b2) := F_a_words_2.same W3
  have N3 := Fr.snoc X3 N0 ga
  have E_a_3 : Exa Z h3 a "com/example/tiefast/tiefast/Bits" := E_a_2.wr W3
  have A_b2_3 : Af Z h3 b2 .long k (fun q => .long ((fun _ => (0 : Int64)) q)) := A_b2.other W3 (Ne.symm ne_a_b2)
  have E_b2_3 : Exa Z h3 b2 "[J" := Q2.wr W3
  have Z3 : n0 ≤ h3.size := Nat.le_trans Z2 (Nat.le_of_eq W3.size.symm)
  have K3 : Keep h0 h3 [a] := K2.wr W3 (Or.inl (List.mem_of_getElem? (i := 0) rfl))
  show Ends p e below _ T3 (mkF m 17 #[.val (.ref a), .val (.int n)] [])
  exact Ends.retV X3 hx hlk hret (hb hby d1_17) (by decide) (by decide) (by rw [e3]; exact ⟨b2, rfl, N3, K3, E_a_3, F_a_words_3, A_b2_3, g_b2⟩)
theorem d3_0 : decode prog_7_method_2_code 0 = .ok (.aload_n 0, 1) := by decide +kernel
theorem d3_1 : decode prog_7_method_2_code 1 = .ok (.getfield 7, 3) := by decide +kernel
theorem d3_4 : decode prog_7_method_2_code 4 = .ok (.iload_n 1, 1) := by decide +kernel
theorem d3_5 : decode prog_7_method_2_code 5 = .ok (.bipush 6, 2) := by decide +kernel
theorem d3_7 : decode prog_7_method_2_code 7 = .ok (.iushr, 1) := by decide +kernel
theorem d3_8 : decode prog_7_method_2_code 8 = .ok (.dup2, 1) := by decide +kernel
theorem d3_9 : decode prog_7_method_2_code 9 = .ok (.laload, 1) := by decide +kernel
theorem d3_10 : decode prog_7_method_2_code 10 = .ok (.lconst 1, 1) := by decide +kernel
theorem d3_11 : decode prog_7_method_2_code 11 = .ok (.iload_n 1, 1) := by decide +kernel
theorem d3_12 : decode prog_7_method_2_code 12 = .ok (.lshl, 1) := by decide +kernel
theorem d3_13 : decode prog_7_method_2_code 13 = .ok (.lor, 1) := by decide +kernel
theorem d3_14 : decode prog_7_method_2_code 14 = .ok (.lastore, 1) := by decide +kernel
theorem d3_15 : decode prog_7_method_2_code 15 = .ok (.return_, 1) := by decide +kernel
theorem pd_3 : parseMethodDescriptor "(I)V" = some ⟨[.int], none⟩ := by decide +kernel
theorem pf_3 : plainFor (⟨"com/example/tiefast/tiefast/Bits", "set", "(I)V"⟩ : MethodName) = true := plainFor_of_name (by first | (simp [plainName, overriddenIn, x]; done) | decide +kernel)
theorem ef_3 (m : MethodId) (a : Addr) (i : Int32) : entryFrame m #[(.ref a), (.int i)] 2 = mkF m 0 #[.val (.ref a), .val (.int i)] [] := by first | (simp [entryFrame, mkF, argsToLocals, Value.category]; done) | rfl
set_option maxRecDepth 65536 in
set_option maxHeartbeats 40000000 in
theorem con_3 (l : Launch) (Z : State) (a0 : Array Value) (hw : ∀ d ∈ tables_1, d.before a0 Z = true) (a : Addr) (i : Int32) (ar : Addr) (k N : Nat) (g : Nat → Int64) (h0 : Heap) (n0 : Nat) (Z0 : n0 ≤ h0.size) (E0 : Exa Z h0 a "com/example/tiefast/tiefast/Bits") (F1 : Fld Z h0 a "com/example/tiefast/tiefast/Bits" "words" "[J" (.ref ar)) (A0 : Af Z h0 ar .long k (fun q => .long (g q))) (hi : i.toInt = (N : Int)) (hN : N / 64 < k) (gar : n0 ≤ ar) : Con l Z (⟨"com/example/tiefast/tiefast/Bits", "set", "(I)V"⟩ : MethodName) prog_7_method_2_code 2 none ({ frames := 0, cells := 0, slots := 0, locals := 0 } : Room) #[(.ref a), (.int i)] h0 (fun v h L => v = none ∧ Fr n0 L ∧ Keep h0 h [ar] ∧ Af Z h ar .long k (fun q => .long (upd g (N / 64) ((g (N / 64)) ||| own_bit i) q))) := by
  refine Con.intro pf_3 ?_
  intro p e s m below meth c s₁ hx hby hml hown hnm hret hlk hZ X0 e0
  refine Ends.cast (ef_3 m a i) ?_
  have N0 := Fr.nil n0
  have K0 : Keep h0 h0 [ar] := Keep.refl _ _
  refine Ends.by (fun _ => XS.aloadN X0.here hx rfl (hb hby d3_0) rfl rfl) ?_
  show Ends p e below _ s₁ (mkF m 1 #[.val (.ref a), .val (.int i)] [(.ref a)])
  obtain ⟨T1, X1, e1, st1⟩ := getF X0 hx hZ hown (host := "") (Or.inl (hw _ (List.mem_of_getElem? (i := 11) rfl))) Via.refl e0 F1 (g := (mkF m 1 #[.val (.ref a), .val (.int i)] [(.ref a)])) rfl rfl (hb hby d3_1)
  refine Ends.by st1 ?_
  show Ends p e below _ T1 (mkF m 4 #[.val (.ref a), .val (.int i)] [(.ref ar)])
  refine Ends.by (fun _ => XS.iloadN X1.here hx rfl (hb hby d3_4) rfl) ?_
  show Ends p e below _ T1 (mkF m 5 #[.val (.ref a), .val (.int i)] [(.int i), (.ref ar)])
  refine Ends.by (fun _ => XS.bipush X1.here hx rfl (hb hby d3_5)) ?_
  show Ends p e below _ T1 (mkF m 7 #[.val (.ref a), .val (.int i)] [(.int (6 : Int32)), (.int i), (.ref ar)])
  refine Ends.by (fun _ => XS.iushr X1.here hx rfl (hb hby d3_7) rfl) ?_
  show Ends p e below _ T1 (mkF m 8 #[.val (.ref a), .val (.int i)] [(.int ((i.toUInt32 >>> ((6 : Int32) &&& 31).toUInt32).toInt32)), (.ref ar)])
  refine Ends.by (fun _ => XT.dup2 X1.here hx rfl (hb hby d3_8) rfl rfl rfl) ?_
  show Ends p e below _ T1 (mkF m 9 #[.val (.ref a), .val (.int i)] [(.int ((i.toUInt32 >>> ((6 : Int32) &&& 31).toUInt32).toInt32)), (.ref ar), (.int ((i.toUInt32 >>> ((6 : Int32) &&& 31).toUInt32).toInt32)), (.ref ar)])
  refine Ends.ldJ X1 hx hZ e1 A0 (k := (N / 64)) (own_j hi) hN (v := (.long (g (N / 64)))) rfl (hb hby d3_9) ?_
  show Ends p e below _ T1 (mkF m 10 #[.val (.ref a), .val (.int i)] [(.long (g (N / 64))), (.int ((i.toUInt32 >>> ((6 : Int32) &&& 31).toUInt32).toInt32)), (.ref ar)])
  refine Ends.by (fun _ => XS.lconst X1.here hx rfl (hb hby d3_10)) ?_
  show Ends p e below _ T1 (mkF m 11 #[.val (.ref a), .val (.int i)] [(.long (1 : Int64)), (.long (g (N / 64))), (.int ((i.toUInt32 >>> ((6 : Int32) &&& 31).toUInt32).toInt32)), (.ref ar)])
  refine Ends.by (fun _ => XS.iloadN X1.here hx rfl (hb hby d3_11) rfl) ?_
  show Ends p e below _ T1 (mkF m 12 #[.val (.ref a), .val (.int i)] [(.int i), (.long (1 : Int64)), (.long (g (N / 64))), (.int ((i.toUInt32 >>> ((6 : Int32) &&& 31).toUInt32).toInt32)), (.ref ar)])
  refine Ends.by (fun _ => XS.lshl X1.here hx rfl (hb hby d3_12) rfl) ?_
  show Ends p e below _ T1 (mkF m 13 #[.val (.ref a), .val (.int i)] [(.long ((1 : Int64) <<< (i &&& 0x3f).toInt64)), (.long (g (N / 64))), (.int ((i.toUInt32 >>> ((6 : Int32) &&& 31).toUInt32).toInt32)), (.ref ar)])
  refine Ends.by (fun _ => XS.lor X1.here hx rfl (hb hby d3_13) rfl) ?_
  show Ends p e below _ T1 (mkF m 14 #[.val (.ref a), .val (.int i)] [(.long ((g (N / 64)) ||| ((1 : Int64) <<< (i &&& 0x3f).toInt64))), (.int ((i.toUInt32 >>> ((6 : Int32) &&& 31).toUInt32).toInt32)), (.ref ar)])
  refine Ends.stJ X1 hx hZ e1 N0 gar A0 (k := (N / 64)) (own_j hi) hN (hb hby d3_14) ?_
  intro T2 h2 L2 X2 e2 N2 W2 B2
  have C2 : Af Z h2 ar .long k (fun q => .long ((upd g (N / 64) ((g (N / 64)) ||| ((1 : Int64) <<< (i &&& 0x3f).toInt64))) q)) := B2.congr (fun q _ => own_updL g (N / 64) _ q)
  have F_a_words_2 : Fld Z h2 a "com/example/tiefast/tiefast/Bits" "words" "[J" (.ref ar) := F1.other W2 (Or.inl (own_apart E0 A0 (hw _ (List.mem_of_getElem? (i := 2) rfl))))
  have E_a_2 : Exa Z h2 a "com/example/tiefast/tiefast/Bits" := E0.wr W2
  have Z2 : n0 ≤ h2.size := Nat.le_trans Z0 (Nat.le_of_eq W2.size.symm)
  have K2 : Keep h0 h2 [ar] := K0.wr W2 (Or.inl (List.mem_of_getElem? (i := 0) rfl))
  show Ends p e below _ T2 (mkF m 15 #[.val (.ref a), .val (.int i)] [])
  exact Ends.retV X2 hx hlk hret (hb hby d3_15) (by decide) (by decide) (by rw [e2]; exact ⟨rfl, N2, K2, C2⟩)
theorem d4_0 : decode prog_7_method_3_code 0 = .ok (.aload_n 0, 1) := by decide +kernel
theorem d4_1 : decode prog_7_method_3_code 1 = .ok (.getfield 7, 3) := by decide +kernel
theorem d4_4 : decode prog_7_method_3_code 4 = .ok (.iload_n 1, 1) := by decide +kernel
theorem d4_5 : decode prog_7_method_3_code 5 = .ok (.bipush 6, 2) := by decide +kernel
theorem d4_7 : decode prog_7_method_3_code 7 = .ok (.iushr, 1) := by decide +kernel
theorem d4_8 : decode prog_7_method_3_code 8 = .ok (.dup2, 1) := by decide +kernel
theorem d4_9 : decode prog_7_method_3_code 9 = .ok (.laload, 1) := by decide +kernel
theorem d4_10 : decode prog_7_method_3_code 10 = .ok (.lconst 1, 1) := by decide +kernel
theorem d4_11 : decode prog_7_method_3_code 11 = .ok (.iload_n 1, 1) := by decide +kernel
theorem d4_12 : decode prog_7_method_3_code 12 = .ok (.lshl, 1) := by decide +kernel
theorem d4_13 : decode prog_7_method_3_code 13 = .ok (.ldc2_w 13, 3) := by decide +kernel
theorem d4_16 : decode prog_7_method_3_code 16 = .ok (.lxor, 1) := by decide +kernel
theorem d4_17 : decode prog_7_method_3_code 17 = .ok (.land, 1) := by decide +kernel
theorem d4_18 : decode prog_7_method_3_code 18 = .ok (.lastore, 1) := by decide +kernel
theorem d4_19 : decode prog_7_method_3_code 19 = .ok (.return_, 1) := by decide +kernel
theorem pd_4 : parseMethodDescriptor "(I)V" = some ⟨[.int], none⟩ := by decide +kernel
theorem pf_4 : plainFor (⟨"com/example/tiefast/tiefast/Bits", "clear", "(I)V"⟩ : MethodName) = true := plainFor_of_name (by first | (simp [plainName, overriddenIn, x]; done) | decide +kernel)
theorem ef_4 (m : MethodId) (a : Addr) (i : Int32) : entryFrame m #[(.ref a), (.int i)] 2 = mkF m 0 #[.val (.ref a), .val (.int i)] [] := by first | (simp [entryFrame, mkF, argsToLocals, Value.category]; done) | rfl
set_option maxRecDepth 65536 in
set_option maxHeartbeats 40000000 in
theorem con_4 (l : Launch) (Z : State) (a0 : Array Value) (hw : ∀ d ∈ tables_1, d.before a0 Z = true) (a : Addr) (i : Int32) (ar : Addr) (k N : Nat) (g : Nat → Int64) (h0 : Heap) (n0 : Nat) (Z0 : n0 ≤ h0.size) (E0 : Exa Z h0 a "com/example/tiefast/tiefast/Bits") (F1 : Fld Z h0 a "com/example/tiefast/tiefast/Bits" "words" "[J" (.ref ar)) (A0 : Af Z h0 ar .long k (fun q => .long (g q))) (hi : i.toInt = (N : Int)) (hN : N / 64 < k) (gar : n0 ≤ ar) : Con l Z (⟨"com/example/tiefast/tiefast/Bits", "clear", "(I)V"⟩ : MethodName) prog_7_method_3_code 2 none ({ frames := 0, cells := 0, slots := 0, locals := 0 } : Room) #[(.ref a), (.int i)] h0 (fun v h L => v = none ∧ Fr n0 L ∧ Keep h0 h [ar] ∧ Af Z h ar .long k (fun q => .long (upd g (N / 64) ((g (N / 64)) &&& (own_bit i ^^^ (-1 : Int64))) q))) := by
  refine Con.intro pf_4 ?_
  intro p e s m below meth c s₁ hx hby hml hown hnm hret hlk hZ X0 e0
  refine Ends.cast (ef_4 m a i) ?_
  have N0 := Fr.nil n0
  have K0 : Keep h0 h0 [ar] := Keep.refl _ _
  refine Ends.by (fun _ => XS.aloadN X0.here hx rfl (hb hby d4_0) rfl rfl) ?_
  show Ends p e below _ s₁ (mkF m 1 #[.val (.ref a), .val (.int i)] [(.ref a)])
  obtain ⟨T1, X1, e1, st1⟩ := getF X0 hx hZ hown (host := "") (Or.inl (hw _ (List.mem_of_getElem? (i := 11) rfl))) Via.refl e0 F1 (g := (mkF m 1 #[.val (.ref a), .val (.int i)] [(.ref a)])) rfl rfl (hb hby d4_1)
  refine Ends.by st1 ?_
  show Ends p e below _ T1 (mkF m 4 #[.val (.ref a), .val (.int i)] [(.ref ar)])
  refine Ends.by (fun _ => XS.iloadN X1.here hx rfl (hb hby d4_4) rfl) ?_
  show Ends p e below _ T1 (mkF m 5 #[.val (.ref a), .val (.int i)] [(.int i), (.ref ar)])
  refine Ends.by (fun _ => XS.bipush X1.here hx rfl (hb hby d4_5)) ?_
  show Ends p e below _ T1 (mkF m 7 #[.val (.ref a), .val (.int i)] [(.int (6 : Int32)), (.int i), (.ref ar)])
  refine Ends.by (fun _ => XS.iushr X1.here hx rfl (hb hby d4_7) rfl) ?_
  show Ends p e below _ T1 (mkF m 8 #[.val (.ref a), .val (.int i)] [(.int ((i.toUInt32 >>> ((6 : Int32) &&& 31).toUInt32).toInt32)), (.ref ar)])
  refine Ends.by (fun _ => XT.dup2 X1.here hx rfl (hb hby d4_8) rfl rfl rfl) ?_
  show Ends p e below _ T1 (mkF m 9 #[.val (.ref a), .val (.int i)] [(.int ((i.toUInt32 >>> ((6 : Int32) &&& 31).toUInt32).toInt32)), (.ref ar), (.int ((i.toUInt32 >>> ((6 : Int32) &&& 31).toUInt32).toInt32)), (.ref ar)])
  refine Ends.ldJ X1 hx hZ e1 A0 (k := (N / 64)) (own_j hi) hN (v := (.long (g (N / 64)))) rfl (hb hby d4_9) ?_
  show Ends p e below _ T1 (mkF m 10 #[.val (.ref a), .val (.int i)] [(.long (g (N / 64))), (.int ((i.toUInt32 >>> ((6 : Int32) &&& 31).toUInt32).toInt32)), (.ref ar)])
  refine Ends.by (fun _ => XS.lconst X1.here hx rfl (hb hby d4_10)) ?_
  show Ends p e below _ T1 (mkF m 11 #[.val (.ref a), .val (.int i)] [(.long (1 : Int64)), (.long (g (N / 64))), (.int ((i.toUInt32 >>> ((6 : Int32) &&& 31).toUInt32).toInt32)), (.ref ar)])
  refine Ends.by (fun _ => XS.iloadN X1.here hx rfl (hb hby d4_11) rfl) ?_
  show Ends p e below _ T1 (mkF m 12 #[.val (.ref a), .val (.int i)] [(.int i), (.long (1 : Int64)), (.long (g (N / 64))), (.int ((i.toUInt32 >>> ((6 : Int32) &&& 31).toUInt32).toInt32)), (.ref ar)])
  refine Ends.by (fun _ => XS.lshl X1.here hx rfl (hb hby d4_12) rfl) ?_
  show Ends p e below _ T1 (mkF m 13 #[.val (.ref a), .val (.int i)] [(.long ((1 : Int64) <<< (i &&& 0x3f).toInt64)), (.long (g (N / 64))), (.int ((i.toUInt32 >>> ((6 : Int32) &&& 31).toUInt32).toInt32)), (.ref ar)])
  refine Ends.by (X1.ldc2Long hx hown (mvT hZ (hw _ (List.mem_of_getElem? (i := 23) rfl))) (g := (mkF m 13 #[.val (.ref a), .val (.int i)] [(.long ((1 : Int64) <<< (i &&& 0x3f).toInt64)), (.long (g (N / 64))), (.int ((i.toUInt32 >>> ((6 : Int32) &&& 31).toUInt32).toInt32)), (.ref ar)])) rfl (hb hby d4_13)) ?_
  show Ends p e below _ T1 (mkF m 16 #[.val (.ref a), .val (.int i)] [(.long (-1 : Int64)), (.long ((1 : Int64) <<< (i &&& 0x3f).toInt64)), (.long (g (N / 64))), (.int ((i.toUInt32 >>> ((6 : Int32) &&& 31).toUInt32).toInt32)), (.ref ar)])
  refine Ends.by (fun _ => XS.lxor X1.here hx rfl (hb hby d4_16) rfl) ?_
  show Ends p e below _ T1 (mkF m 17 #[.val (.ref a), .val (.int i)] [(.long (((1 : Int64) <<< (i &&& 0x3f).toInt64) ^^^ (-1 : Int64))), (.long (g (N / 64))), (.int ((i.toUInt32 >>> ((6 : Int32) &&& 31).toUInt32).toInt32)), (.ref ar)])
  refine Ends.by (fun _ => XS.land X1.here hx rfl (hb hby d4_17) rfl) ?_
  show Ends p e below _ T1 (mkF m 18 #[.val (.ref a), .val (.int i)] [(.long ((g (N / 64)) &&& (((1 : Int64) <<< (i &&& 0x3f).toInt64) ^^^ (-1 : Int64)))), (.int ((i.toUInt32 >>> ((6 : Int32) &&& 31).toUInt32).toInt32)), (.ref ar)])
  refine Ends.stJ X1 hx hZ e1 N0 gar A0 (k := (N / 64)) (own_j hi) hN (hb hby d4_18) ?_
  intro T2 h2 L2 X2 e2 N2 W2 B2
  have C2 : Af Z h2 ar .long k (fun q => .long ((upd g (N / 64) ((g (N / 64)) &&& (((1 : Int64) <<< (i &&& 0x3f).toInt64) ^^^ (-1 : Int64)))) q)) := B2.congr (fun q _ => own_updL g (N / 64) _ q)
  have F_a_words_2 : Fld Z h2 a "com/example/tiefast/tiefast/Bits" "words" "[J" (.ref ar) := F1.other W2 (Or.inl (own_apart E0 A0 (hw _ (List.mem_of_getElem? (i := 2) rfl))))
  have E_a_2 : Exa Z h2 a "com/example/tiefast/tiefast/Bits" := E0.wr W2
  have Z2 : n0 ≤ h2.size := Nat.le_trans Z0 (Nat.le_of_eq W2.size.symm)
  have K2 : Keep h0 h2 [ar] := K0.wr W2 (Or.inl (List.mem_of_getElem? (i := 0) rfl))
  show Ends p e below _ T2 (mkF m 19 #[.val (.ref a), .val (.int i)] [])
  exact Ends.retV X2 hx hlk hret (hb hby d4_19) (by decide) (by decide) (by rw [e2]; exact ⟨rfl, N2, K2, C2⟩)
theorem d5_0 : decode prog_7_method_4_code 0 = .ok (.aload_n 0, 1) := by decide +kernel
theorem d5_1 : decode prog_7_method_4_code 1 = .ok (.getfield 7, 3) := by decide +kernel
theorem d5_4 : decode prog_7_method_4_code 4 = .ok (.iload_n 1, 1) := by decide +kernel
theorem d5_5 : decode prog_7_method_4_code 5 = .ok (.bipush 6, 2) := by decide +kernel
theorem d5_7 : decode prog_7_method_4_code 7 = .ok (.iushr, 1) := by decide +kernel
theorem d5_8 : decode prog_7_method_4_code 8 = .ok (.laload, 1) := by decide +kernel
theorem d5_9 : decode prog_7_method_4_code 9 = .ok (.lconst 1, 1) := by decide +kernel
theorem d5_10 : decode prog_7_method_4_code 10 = .ok (.iload_n 1, 1) := by decide +kernel
theorem d5_11 : decode prog_7_method_4_code 11 = .ok (.lshl, 1) := by decide +kernel
theorem d5_12 : decode prog_7_method_4_code 12 = .ok (.land, 1) := by decide +kernel
theorem d5_13 : decode prog_7_method_4_code 13 = .ok (.lconst 0, 1) := by decide +kernel
theorem d5_14 : decode prog_7_method_4_code 14 = .ok (.lcmp, 1) := by decide +kernel
theorem d5_15 : decode prog_7_method_4_code 15 = .ok (.ifCond .eq 7, 3) := by decide +kernel
theorem d5_18 : decode prog_7_method_4_code 18 = .ok (.iconst 1, 1) := by decide +kernel
theorem d5_19 : decode prog_7_method_4_code 19 = .ok (.goto 4, 3) := by decide +kernel
theorem d5_22 : decode prog_7_method_4_code 22 = .ok (.iconst 0, 1) := by decide +kernel
theorem d5_23 : decode prog_7_method_4_code 23 = .ok (.ireturn, 1) := by decide +kernel
theorem pd_5 : parseMethodDescriptor "(I)Z" = some ⟨[.int], some .boolean⟩ := by decide +kernel
theorem pf_5 : plainFor (⟨"com/example/tiefast/tiefast/Bits", "get", "(I)Z"⟩ : MethodName) = true := plainFor_of_name (by first | (simp [plainName, overriddenIn, x]; done) | decide +kernel)
theorem ef_5 (m : MethodId) (a : Addr) (i : Int32) : entryFrame m #[(.ref a), (.int i)] 2 = mkF m 0 #[.val (.ref a), .val (.int i)] [] := by first | (simp [entryFrame, mkF, argsToLocals, Value.category]; done) | rfl
def own_get (x : Int64) : Int32 := if (lcmpW x (0 : Int64)) = (0 : Int32) then 0 else 1
set_option maxRecDepth 65536 in
set_option maxHeartbeats 40000000 in
theorem con_5 (l : Launch) (Z : State) (a0 : Array Value) (hw : ∀ d ∈ tables_1, d.before a0 Z = true) (a : Addr) (i : Int32) (ar : Addr) (k N : Nat) (g : Nat → Int64) (h0 : Heap) (n0 : Nat) (Z0 : n0 ≤ h0.size) (E0 : Exa Z h0 a "com/example/tiefast/tiefast/Bits") (F1 : Fld Z h0 a "com/example/tiefast/tiefast/Bits" "words" "[J" (.ref ar)) (A0 : Af Z h0 ar .long k (fun q => .long (g q))) (hi : i.toInt = (N : Int)) (hN : N / 64 < k) : Con l Z (⟨"com/example/tiefast/tiefast/Bits", "get", "(I)Z"⟩ : MethodName) prog_7_method_4_code 2 (some .boolean) ({ frames := 0, cells := 0, slots := 0, locals := 0 } : Room) #[(.ref a), (.int i)] h0 (Pure h0 (some (.int (own_get (g (N / 64) &&& own_bit i))))) := by
  refine Con.intro pf_5 ?_
  intro p e s m below meth c s₁ hx hby hml hown hnm hret hlk hZ X0 e0
  refine Ends.cast (ef_5 m a i) ?_
  have N0 := Fr.nil n0
  refine Ends.by (fun _ => XS.aloadN X0.here hx rfl (hb hby d5_0) rfl rfl) ?_
  show Ends p e below _ s₁ (mkF m 1 #[.val (.ref a), .val (.int i)] [(.ref a)])
  obtain ⟨T1, X1, e1, st1⟩ := getF X0 hx hZ hown (host := "") (Or.inl (hw _ (List.mem_of_getElem? (i := 11) rfl))) Via.refl e0 F1 (g := (mkF m 1 #[.val (.ref a), .val (.int i)] [(.ref a)])) rfl rfl (hb hby d5_1)
  refine Ends.by st1 ?_
  show Ends p e below _ T1 (mkF m 4 #[.val (.ref a), .val (.int i)] [(.ref ar)])
  refine Ends.by (fun _ => XS.iloadN X1.here hx rfl (hb hby d5_4) rfl) ?_
  show Ends p e below _ T1 (mkF m 5 #[.val (.ref a), .val (.int i)] [(.int i), (.ref ar)])
  refine Ends.by (fun _ => XS.bipush X1.here hx rfl (hb hby d5_5)) ?_
  show Ends p e below _ T1 (mkF m 7 #[.val (.ref a), .val (.int i)] [(.int (6 : Int32)), (.int i), (.ref ar)])
  refine Ends.by (fun _ => XS.iushr X1.here hx rfl (hb hby d5_7) rfl) ?_
  show Ends p e below _ T1 (mkF m 8 #[.val (.ref a), .val (.int i)] [(.int ((i.toUInt32 >>> ((6 : Int32) &&& 31).toUInt32).toInt32)), (.ref ar)])
  refine Ends.ldJ X1 hx hZ e1 A0 (k := (N / 64)) (own_j hi) hN (v := (.long (g (N / 64)))) rfl (hb hby d5_8) ?_
  show Ends p e below _ T1 (mkF m 9 #[.val (.ref a), .val (.int i)] [(.long (g (N / 64)))])
  refine Ends.by (fun _ => XS.lconst X1.here hx rfl (hb hby d5_9)) ?_
  show Ends p e below _ T1 (mkF m 10 #[.val (.ref a), .val (.int i)] [(.long (1 : Int64)), (.long (g (N / 64)))])
  refine Ends.by (fun _ => XS.iloadN X1.here hx rfl (hb hby d5_10) rfl) ?_
  show Ends p e below _ T1 (mkF m 11 #[.val (.ref a), .val (.int i)] [(.int i), (.long (1 : Int64)), (.long (g (N / 64)))])
  refine Ends.by (fun _ => XS.lshl X1.here hx rfl (hb hby d5_11) rfl) ?_
  show Ends p e below _ T1 (mkF m 12 #[.val (.ref a), .val (.int i)] [(.long ((1 : Int64) <<< (i &&& 0x3f).toInt64)), (.long (g (N / 64)))])
  refine Ends.by (fun _ => XS.land X1.here hx rfl (hb hby d5_12) rfl) ?_
  show Ends p e below _ T1 (mkF m 13 #[.val (.ref a), .val (.int i)] [(.long ((g (N / 64)) &&& ((1 : Int64) <<< (i &&& 0x3f).toInt64)))])
  refine Ends.by (fun _ => XS.lconst X1.here hx rfl (hb hby d5_13)) ?_
  show Ends p e below _ T1 (mkF m 14 #[.val (.ref a), .val (.int i)] [(.long (0 : Int64)), (.long ((g (N / 64)) &&& ((1 : Int64) <<< (i &&& 0x3f).toInt64)))])
  refine Ends.by (fun _ => XS.lcmp X1.here hx rfl (hb hby d5_14) rfl) ?_
  show Ends p e below _ T1 (mkF m 15 #[.val (.ref a), .val (.int i)] [(.int (lcmpW ((g (N / 64)) &&& ((1 : Int64) <<< (i &&& 0x3f).toInt64)) (0 : Int64)))])
  refine Ends.ifc X1 hx (hb hby d5_15) 22 (by decide) (by decide) (fun q => ?_) (fun q => ?_)
  · have c15 : (lcmpW ((g (N / 64)) &&& ((1 : Int64) <<< (i &&& 0x3f).toInt64)) (0 : Int64)) = (0 : Int32) := own_eq.1 q
    show Ends p e below _ T1 (mkF m 22 #[.val (.ref a), .val (.int i)] [])
    refine Ends.by (fun _ => XS.iconst X1.here hx rfl (hb hby d5_22)) ?_
    show Ends p e below _ T1 (mkF m 23 #[.val (.ref a), .val (.int i)] [(.int (0 : Int32))])
    exact Ends.retZ X1 hx hlk hret (hb hby d5_23) (by first | decide | (simp; done)) (by decide) (by decide) (by rw [e1]; exact ⟨by rw [own_get, if_pos (show (lcmpW (g (N / 64) &&& own_bit i) (0 : Int64)) = (0 : Int32) from c15)], rfl, rfl⟩)
  · have c15 : ¬ ((lcmpW ((g (N / 64)) &&& ((1 : Int64) <<< (i &&& 0x3f).toInt64)) (0 : Int64)) = (0 : Int32)) := own_eq.2 q
    show Ends p e below _ T1 (mkF m 18 #[.val (.ref a), .val (.int i)] [])
    refine Ends.by (fun _ => XS.iconst X1.here hx rfl (hb hby d5_18)) ?_
    show Ends p e below _ T1 (mkF m 19 #[.val (.ref a), .val (.int i)] [(.int (1 : Int32))])
    refine Ends.by (fun _ => XS.goto X1.here hx rfl (pc0 := 19) (pc' := 23) rfl (hb hby d5_19) (by decide) (by decide)) ?_
    show Ends p e below _ T1 (mkF m 23 #[.val (.ref a), .val (.int i)] [(.int (1 : Int32))])
    exact Ends.retZ X1 hx hlk hret (hb hby d5_23) (by first | decide | (simp; done)) (by decide) (by decide) (by rw [e1]; exact ⟨by rw [own_get, if_neg (show ¬ (lcmpW (g (N / 64) &&& own_bit i) (0 : Int64)) = (0 : Int32) from c15)], rfl, rfl⟩)
theorem own_nb (i : Int32) : 1 ≤ (1 + (i &&& 255)).toInt ∧ (1 + (i &&& 255)).toInt ≤ 256 := by
  have e1 : (i &&& 255).toInt = i.toInt % (2 ^ 8 : Nat) := c_mask i 255 8 (by decide) (by decide)
  have e3 := c_iadd 1 (i &&& 255)
  have e4 : (1 : Int32).toInt = 1 := by decide
  have r := rng32 (1 + (i &&& 255))
  omega
theorem own_nz {n : Int32} (hn : 1 ≤ n.toInt ∧ n.toInt ≤ 256) : n ≠ 0 := by
  intro q; subst q
  have e4 : (0 : Int32).toInt = 0 := by decide
  omega
theorem own_rem (i : Int32) {n : Int32} (hn : 1 ≤ n.toInt ∧ n.toInt ≤ 256) : ∃ N : Nat, ((i &&& 2147483647) % n).toInt = (N : Int) ∧ (N : Int) < n.toInt := by
  have e1 : (i &&& 2147483647).toInt = i.toInt % (2 ^ 31 : Nat) := c_mask i 2147483647 31 (by decide) (by decide)
  have e2 := (c_iremV (i &&& 2147483647) n).1 (by omega) (by omega)
  exact ⟨((i &&& 2147483647) % n).toInt.toNat, by omega, by omega⟩
theorem own_words {n : Int32} (hn : 1 ≤ n.toInt ∧ n.toInt ≤ 256) : ∃ k : Nat, (((n + 63).toUInt32 >>> ((6 : Int32) &&& 31).toUInt32).toInt32).toInt = (k : Int) ∧ k ≤ 4 ∧ ∀ N : Nat, (N : Int) < n.toInt → N / 64 < k := by
  have e3 := c_iadd n 63
  have e4 : (63 : Int32).toInt = 63 := by decide
  have r := rng32 (n + 63)
  have e5 : (n + 63).toInt = (((n + 63).toInt.toNat : Nat) : Int) := by omega
  refine ⟨(n + 63).toInt.toNat / 64, own_j e5, by omega, fun N hN => by omega⟩
theorem own_bit_pow {i : Int32} {N : Nat} (h : i.toInt = (N : Int)) : (own_bit i).toBitVec = BitVec.twoPow 64 (N % 64) := by
  have hN : i.toBitVec.toNat % 64 = N % 64 := by
    have e : i.toInt = Int.bmod i.toBitVec.toNat (2 ^ 32) := BitVec.toInt_eq_toNat_bmod _
    have r := bm32 i.toBitVec.toNat
    omega
  obtain ⟨e1, e2⟩ := sm64 i (N % 64) hN
  have e3 : (own_bit i).toBitVec = (1 : Int64).toBitVec <<< ((i &&& 0x3f).toInt64.toBitVec.smod 64) := rfl
  rw [e3, e1, BitVec.shiftLeft_eq', smod64 _ e2]
  rfl
def own_t (g : Nat → Int64) (N : Nat) : Bool := (g (N / 64)).toBitVec.getLsbD (N % 64)
theorem own_get_t {g : Nat → Int64} {i : Int32} {N : Nat} (h : i.toInt = (N : Int)) : own_get (g (N / 64) &&& own_bit i) = if own_t g N = true then 1 else 0 := by
  have e : (g (N / 64) &&& own_bit i) = 0 ↔ own_t g N = false := by
    rw [← Int64.toBitVec_inj, Int64.toBitVec_and, own_bit_pow h, BitVec.and_twoPow]
    unfold own_t
    have z : (0 : Int64).toBitVec = 0#64 := rfl
    rw [z]
    split
    · rename_i q
      rw [q]
      constructor
      · intro w
        have w2 := congrArg (fun x : BitVec 64 => x.getLsbD (N % 64)) w
        simp [BitVec.getLsbD_twoPow, Nat.mod_lt] at w2
      · intro w; cases w
    · rename_i q
      simp at q
      simp [q]
  unfold own_get
  by_cases q : own_t g N = true
  · rw [if_pos q, if_neg (fun w => by rw [e.mp ((lw_eq _ _).mp w)] at q; cases q)]
  · rw [if_neg q, if_pos ((lw_eq _ _).mpr (e.mpr (by simpa using q)))]
theorem own_set_t {g : Nat → Int64} {i : Int32} {N M : Nat} (h : i.toInt = (N : Int)) : own_t (upd g (N / 64) (g (N / 64) ||| own_bit i)) M = (decide (M = N) || own_t g M) := by
  unfold own_t
  by_cases q : M / 64 = N / 64
  · rw [q, upd_hit, Int64.toBitVec_or, own_bit_pow h, BitVec.getLsbD_or, BitVec.getLsbD_twoPow, Bool.or_comm]
    congr 1
    have h1 : (N % 64 < 64) := Nat.mod_lt _ (by decide)
    by_cases w : M = N
    · subst w; simp [h1]
    · have : ¬ N % 64 = M % 64 := by omega
      simp [w, this]
  · rw [upd_miss _ _ q]
    have : ¬ M = N := fun w => q (by rw [w])
    simp [this]
theorem own_clr_t {g : Nat → Int64} {i : Int32} {N M : Nat} (h : i.toInt = (N : Int)) : own_t (upd g (N / 64) (g (N / 64) &&& (own_bit i ^^^ (-1 : Int64)))) M = (!decide (M = N) && own_t g M) := by
  unfold own_t
  by_cases q : M / 64 = N / 64
  · have z : (-1 : Int64).toBitVec = BitVec.allOnes 64 := by decide
    rw [q, upd_hit, Int64.toBitVec_and, Int64.toBitVec_xor, own_bit_pow h, z, BitVec.getLsbD_and, BitVec.getLsbD_xor, BitVec.getLsbD_twoPow, BitVec.getLsbD_allOnes, Bool.and_comm]
    have h1 : (N % 64 < 64) := Nat.mod_lt _ (by decide)
    have h2 : (M % 64 < 64) := Nat.mod_lt _ (by decide)
    congr 1
    by_cases w : M = N
    · subst w; simp [h1]
    · have : ¬ N % 64 = M % 64 := by omega
      simp [w, this, h2]
  · rw [upd_miss _ _ q]
    have : ¬ M = N := fun w => q (by rw [w])
    simp [this]
theorem own_law {ia ib ic iq : Int32} {Na Nb Nc Nq : Nat} (hNa : ia.toInt = (Na : Int)) (hNb : ib.toInt = (Nb : Int)) (hNc : ic.toInt = (Nc : Int)) (hNq : iq.toInt = (Nq : Int)) (g : Nat → Int64) (hg : g = fun _ => 0) :
    own_get (upd (upd (upd g (Na / 64) (g (Na / 64) ||| own_bit ia)) (Nc / 64) (upd g (Na / 64) (g (Na / 64) ||| own_bit ia) (Nc / 64) &&& (own_bit ic ^^^ (-1 : Int64)))) (Nb / 64) (upd (upd g (Na / 64) (g (Na / 64) ||| own_bit ia)) (Nc / 64) (upd g (Na / 64) (g (Na / 64) ||| own_bit ia) (Nc / 64) &&& (own_bit ic ^^^ (-1 : Int64))) (Nb / 64) ||| own_bit ib) (Nq / 64) &&& own_bit iq)
      = if iq = ib ∨ (iq = ia ∧ ¬ iq = ic) then 1 else 0 := by
  rw [own_get_t hNq, own_set_t hNb, own_clr_t hNc, own_set_t hNa]
  have e0 : own_t g Nq = false := by subst hg; unfold own_t; simp
  rw [e0]
  have eq : ∀ {x y : Int32} {A B : Nat}, x.toInt = (A : Int) → y.toInt = (B : Int) → (x = y ↔ A = B) := by
    intro x y A B h1 h2
    rw [← Int32.toInt_inj, h1, h2]; omega
  have w1 := eq hNq hNb
  have w2 := eq hNq hNa
  have w3 := eq hNq hNc
  simp only [w1, w2, w3]
  by_cases q1 : Nq = Nb <;> by_cases q2 : Nq = Na <;> by_cases q3 : Nq = Nc <;> simp [q1, q2, q3]
theorem pd_0 : parseMethodDescriptor "(IIIII)Z" = some ⟨[.int, .int, .int, .int, .int], some .boolean⟩ := by decide +kernel
theorem pf_0 : plainFor x = true := plainFor_of_name (by first | (simp [plainName, overriddenIn, x]; done) | decide +kernel)
theorem ef_0 (m : MethodId) (i0 : Int32) (i1 : Int32) (i2 : Int32) (i3 : Int32) (i4 : Int32) : entryFrame m #[(.int i0), (.int i1), (.int i2), (.int i3), (.int i4)] maxLocals = mkF m 0 #[.val (.int i0), .val (.int i1), .val (.int i2), .val (.int i3), .val (.int i4), .unset, .unset, .unset, .unset, .unset, .unset, .unset] [] := by first | (simp [entryFrame, mkF, argsToLocals, Value.category, maxLocals]; done) | rfl
set_option maxRecDepth 65536 in
set_option maxHeartbeats 40000000 in
theorem con_0 (l : Launch) (Z : State) (a0 : Array Value) (hw : ∀ d ∈ tables_1, d.before a0 Z = true) (i0 : Int32) (i1 : Int32) (i2 : Int32) (i3 : Int32) (i4 : Int32)  (h0 : Heap) (n0 : Nat) (Z0 : n0 ≤ h0.size) : Con l Z x code maxLocals ret room_1 #[(.int i0), (.int i1), (.int i2), (.int i3), (.int i4)] h0 (fun v h L => v = some (.int 1) ∧ Fr n0 L) := by
  refine Con.intro pf_0 ?_
  intro p e s m below meth c s₁ hx hby hml hown hnm hret hlk hZ X0 e0
  refine Ends.cast (ef_0 m i0 i1 i2 i3 i4) ?_
  have N0 := Fr.nil n0
  refine Ends.by (fun _ => XS.iconst X0.here hx rfl (hb hby at_0)) ?_
  show Ends p e below _ s₁ (mkF m 1 #[.val (.int i0), .val (.int i1), .val (.int i2), .val (.int i3), .val (.int i4), .unset, .unset, .unset, .unset, .unset, .unset, .unset] [(.int (1 : Int32))])
  refine Ends.by (fun _ => XS.iloadN X0.here hx rfl (hb hby at_1) rfl) ?_
  show Ends p e below _ s₁ (mkF m 2 #[.val (.int i0), .val (.int i1), .val (.int i2), .val (.int i3), .val (.int i4), .unset, .unset, .unset, .unset, .unset, .unset, .unset] [(.int i0), (.int (1 : Int32))])
  refine Ends.by (fun _ => XS.sipush X0.here hx rfl (hb hby at_2)) ?_
  show Ends p e below _ s₁ (mkF m 5 #[.val (.int i0), .val (.int i1), .val (.int i2), .val (.int i3), .val (.int i4), .unset, .unset, .unset, .unset, .unset, .unset, .unset] [(.int (255 : Int32)), (.int i0), (.int (1 : Int32))])
  refine Ends.by (fun _ => XS.iand X0.here hx rfl (hb hby at_5) rfl) ?_
  show Ends p e below _ s₁ (mkF m 6 #[.val (.int i0), .val (.int i1), .val (.int i2), .val (.int i3), .val (.int i4), .unset, .unset, .unset, .unset, .unset, .unset, .unset] [(.int (i0 &&& (255 : Int32))), (.int (1 : Int32))])
  refine Ends.by (fun _ => XS.iadd X0.here hx rfl (hb hby at_6) rfl) ?_
  show Ends p e below _ s₁ (mkF m 7 #[.val (.int i0), .val (.int i1), .val (.int i2), .val (.int i3), .val (.int i4), .unset, .unset, .unset, .unset, .unset, .unset, .unset] [(.int ((1 : Int32) + (i0 &&& (255 : Int32))))])
  refine Ends.by (fun _ => XS.istore X0.here hx rfl (hb hby at_7) rfl (l' := #[.val (.int i0), .val (.int i1), .val (.int i2), .val (.int i3), .val (.int i4), .val (.int ((1 : Int32) + (i0 &&& (255 : Int32)))), .unset, .unset, .unset, .unset, .unset, .unset]) rfl) ?_
  show Ends p e below _ s₁ (mkF m 9 #[.val (.int i0), .val (.int i1), .val (.int i2), .val (.int i3), .val (.int i4), .val (.int ((1 : Int32) + (i0 &&& (255 : Int32)))), .unset, .unset, .unset, .unset, .unset, .unset] [])
  have hn := own_nb i0
  generalize ((1 : Int32) + (i0 &&& (255 : Int32))) = n at hn ⊢
  show Ends p e below _ s₁ (mkF m 9 #[.val (.int i0), .val (.int i1), .val (.int i2), .val (.int i3), .val (.int i4), .val (.int n), .unset, .unset, .unset, .unset, .unset, .unset] [])
  refine Ends.by (fun _ => XS.iloadN X0.here hx rfl (hb hby at_9) rfl) ?_
  show Ends p e below _ s₁ (mkF m 10 #[.val (.int i0), .val (.int i1), .val (.int i2), .val (.int i3), .val (.int i4), .val (.int n), .unset, .unset, .unset, .unset, .unset, .unset] [(.int i1)])
  refine Ends.by (X0.ldcInt hx hown (mvT hZ (hw _ (List.mem_of_getElem? (i := 0) rfl))) (g := (mkF m 10 #[.val (.int i0), .val (.int i1), .val (.int i2), .val (.int i3), .val (.int i4), .val (.int n), .unset, .unset, .unset, .unset, .unset, .unset] [(.int i1)])) rfl (hb hby at_10)) ?_
  show Ends p e below _ s₁ (mkF m 12 #[.val (.int i0), .val (.int i1), .val (.int i2), .val (.int i3), .val (.int i4), .val (.int n), .unset, .unset, .unset, .unset, .unset, .unset] [(.int (2147483647 : Int32)), (.int i1)])
  refine Ends.by (fun _ => XS.iand X0.here hx rfl (hb hby at_12) rfl) ?_
  show Ends p e below _ s₁ (mkF m 13 #[.val (.int i0), .val (.int i1), .val (.int i2), .val (.int i3), .val (.int i4), .val (.int n), .unset, .unset, .unset, .unset, .unset, .unset] [(.int (i1 &&& (2147483647 : Int32)))])
  refine Ends.by (fun _ => XS.iload X0.here hx rfl (hb hby at_13) rfl) ?_
  show Ends p e below _ s₁ (mkF m 15 #[.val (.int i0), .val (.int i1), .val (.int i2), .val (.int i3), .val (.int i4), .val (.int n), .unset, .unset, .unset, .unset, .unset, .unset] [(.int n), (.int (i1 &&& (2147483647 : Int32)))])
  refine Ends.by (fun _ => iremM (g := (mkF m 15 #[.val (.int i0), .val (.int i1), .val (.int i2), .val (.int i3), .val (.int i4), .val (.int n), .unset, .unset, .unset, .unset, .unset, .unset] [(.int n), (.int (i1 &&& (2147483647 : Int32)))])) X0 hx rfl (hb hby at_15) rfl (own_nz hn)) ?_
  show Ends p e below _ s₁ (mkF m 16 #[.val (.int i0), .val (.int i1), .val (.int i2), .val (.int i3), .val (.int i4), .val (.int n), .unset, .unset, .unset, .unset, .unset, .unset] [(.int ((i1 &&& (2147483647 : Int32)) % n))])
  refine Ends.by (fun _ => XS.istore X0.here hx rfl (hb hby at_16) rfl (l' := #[.val (.int i0), .val (.int i1), .val (.int i2), .val (.int i3), .val (.int i4), .val (.int n), .val (.int ((i1 &&& (2147483647 : Int32)) % n)), .unset, .unset, .unset, .unset, .unset]) rfl) ?_
  show Ends p e below _ s₁ (mkF m 18 #[.val (.int i0), .val (.int i1), .val (.int i2), .val (.int i3), .val (.int i4), .val (.int n), .val (.int ((i1 &&& (2147483647 : Int32)) % n)), .unset, .unset, .unset, .unset, .unset] [])
  have hia := own_rem i1 hn
  generalize ((i1 &&& (2147483647 : Int32)) % n) = ia at hia ⊢
  show Ends p e below _ s₁ (mkF m 18 #[.val (.int i0), .val (.int i1), .val (.int i2), .val (.int i3), .val (.int i4), .val (.int n), .val (.int ia), .unset, .unset, .unset, .unset, .unset] [])
  refine Ends.by (fun _ => XS.iloadN X0.here hx rfl (hb hby at_18) rfl) ?_
  show Ends p e below _ s₁ (mkF m 19 #[.val (.int i0), .val (.int i1), .val (.int i2), .val (.int i3), .val (.int i4), .val (.int n), .val (.int ia), .unset, .unset, .unset, .unset, .unset] [(.int i2)])
  refine Ends.by (X0.ldcInt hx hown (mvT hZ (hw _ (List.mem_of_getElem? (i := 0) rfl))) (g := (mkF m 19 #[.val (.int i0), .val (.int i1), .val (.int i2), .val (.int i3), .val (.int i4), .val (.int n), .val (.int ia), .unset, .unset, .unset, .unset, .unset] [(.int i2)])) rfl (hb hby at_19)) ?_
  show Ends p e below _ s₁ (mkF m 21 #[.val (.int i0), .val (.int i1), .val (.int i2), .val (.int i3), .val (.int i4), .val (.int n), .val (.int ia), .unset, .unset, .unset, .unset, .unset] [(.int (2147483647 : Int32)), (.int i2)])
  refine Ends.by (fun _ => XS.iand X0.here hx rfl (hb hby at_21) rfl) ?_
  show Ends p e below _ s₁ (mkF m 22 #[.val (.int i0), .val (.int i1), .val (.int i2), .val (.int i3), .val (.int i4), .val (.int n), .val (.int ia), .unset, .unset, .unset, .unset, .unset] [(.int (i2 &&& (2147483647 : Int32)))])
  refine Ends.by (fun _ => XS.iload X0.here hx rfl (hb hby at_22) rfl) ?_
  show Ends p e below _ s₁ (mkF m 24 #[.val (.int i0), .val (.int i1), .val (.int i2), .val (.int i3), .val (.int i4), .val (.int n), .val (.int ia), .unset, .unset, .unset, .unset, .unset] [(.int n), (.int (i2 &&& (2147483647 : Int32)))])
  refine Ends.by (fun _ => iremM (g := (mkF m 24 #[.val (.int i0), .val (.int i1), .val (.int i2), .val (.int i3), .val (.int i4), .val (.int n), .val (.int ia), .unset, .unset, .unset, .unset, .unset] [(.int n), (.int (i2 &&& (2147483647 : Int32)))])) X0 hx rfl (hb hby at_24) rfl (own_nz hn)) ?_
  show Ends p e below _ s₁ (mkF m 25 #[.val (.int i0), .val (.int i1), .val (.int i2), .val (.int i3), .val (.int i4), .val (.int n), .val (.int ia), .unset, .unset, .unset, .unset, .unset] [(.int ((i2 &&& (2147483647 : Int32)) % n))])
  refine Ends.by (fun _ => XS.istore X0.here hx rfl (hb hby at_25) rfl (l' := #[.val (.int i0), .val (.int i1), .val (.int i2), .val (.int i3), .val (.int i4), .val (.int n), .val (.int ia), .val (.int ((i2 &&& (2147483647 : Int32)) % n)), .unset, .unset, .unset, .unset]) rfl) ?_
  show Ends p e below _ s₁ (mkF m 27 #[.val (.int i0), .val (.int i1), .val (.int i2), .val (.int i3), .val (.int i4), .val (.int n), .val (.int ia), .val (.int ((i2 &&& (2147483647 : Int32)) % n)), .unset, .unset, .unset, .unset] [])
  have hib := own_rem i2 hn
  generalize ((i2 &&& (2147483647 : Int32)) % n) = ib at hib ⊢
  show Ends p e below _ s₁ (mkF m 27 #[.val (.int i0), .val (.int i1), .val (.int i2), .val (.int i3), .val (.int i4), .val (.int n), .val (.int ia), .val (.int ib), .unset, .unset, .unset, .unset] [])
  refine Ends.by (fun _ => XS.iloadN X0.here hx rfl (hb hby at_27) rfl) ?_
  show Ends p e below _ s₁ (mkF m 28 #[.val (.int i0), .val (.int i1), .val (.int i2), .val (.int i3), .val (.int i4), .val (.int n), .val (.int ia), .val (.int ib), .unset, .unset, .unset, .unset] [(.int i3)])
  refine Ends.by (X0.ldcInt hx hown (mvT hZ (hw _ (List.mem_of_getElem? (i := 0) rfl))) (g := (mkF m 28 #[.val (.int i0), .val (.int i1), .val (.int i2), .val (.int i3), .val (.int i4), .val (.int n), .val (.int ia), .val (.int ib), .unset, .unset, .unset, .unset] [(.int i3)])) rfl (hb hby at_28)) ?_
  show Ends p e below _ s₁ (mkF m 30 #[.val (.int i0), .val (.int i1), .val (.int i2), .val (.int i3), .val (.int i4), .val (.int n), .val (.int ia), .val (.int ib), .unset, .unset, .unset, .unset] [(.int (2147483647 : Int32)), (.int i3)])
  refine Ends.by (fun _ => XS.iand X0.here hx rfl (hb hby at_30) rfl) ?_
  show Ends p e below _ s₁ (mkF m 31 #[.val (.int i0), .val (.int i1), .val (.int i2), .val (.int i3), .val (.int i4), .val (.int n), .val (.int ia), .val (.int ib), .unset, .unset, .unset, .unset] [(.int (i3 &&& (2147483647 : Int32)))])
  refine Ends.by (fun _ => XS.iload X0.here hx rfl (hb hby at_31) rfl) ?_
  show Ends p e below _ s₁ (mkF m 33 #[.val (.int i0), .val (.int i1), .val (.int i2), .val (.int i3), .val (.int i4), .val (.int n), .val (.int ia), .val (.int ib), .unset, .unset, .unset, .unset] [(.int n), (.int (i3 &&& (2147483647 : Int32)))])
  refine Ends.by (fun _ => iremM (g := (mkF m 33 #[.val (.int i0), .val (.int i1), .val (.int i2), .val (.int i3), .val (.int i4), .val (.int n), .val (.int ia), .val (.int ib), .unset, .unset, .unset, .unset] [(.int n), (.int (i3 &&& (2147483647 : Int32)))])) X0 hx rfl (hb hby at_33) rfl (own_nz hn)) ?_
  show Ends p e below _ s₁ (mkF m 34 #[.val (.int i0), .val (.int i1), .val (.int i2), .val (.int i3), .val (.int i4), .val (.int n), .val (.int ia), .val (.int ib), .unset, .unset, .unset, .unset] [(.int ((i3 &&& (2147483647 : Int32)) % n))])
  refine Ends.by (fun _ => XS.istore X0.here hx rfl (hb hby at_34) rfl (l' := #[.val (.int i0), .val (.int i1), .val (.int i2), .val (.int i3), .val (.int i4), .val (.int n), .val (.int ia), .val (.int ib), .val (.int ((i3 &&& (2147483647 : Int32)) % n)), .unset, .unset, .unset]) rfl) ?_
  show Ends p e below _ s₁ (mkF m 36 #[.val (.int i0), .val (.int i1), .val (.int i2), .val (.int i3), .val (.int i4), .val (.int n), .val (.int ia), .val (.int ib), .val (.int ((i3 &&& (2147483647 : Int32)) % n)), .unset, .unset, .unset] [])
  have hic := own_rem i3 hn
  generalize ((i3 &&& (2147483647 : Int32)) % n) = ic at hic ⊢
  show Ends p e below _ s₁ (mkF m 36 #[.val (.int i0), .val (.int i1), .val (.int i2), .val (.int i3), .val (.int i4), .val (.int n), .val (.int ia), .val (.int ib), .val (.int ic), .unset, .unset, .unset] [])
  refine Ends.by (fun _ => XS.iload X0.here hx rfl (hb hby at_36) rfl) ?_
  show Ends p e below _ s₁ (mkF m 38 #[.val (.int i0), .val (.int i1), .val (.int i2), .val (.int i3), .val (.int i4), .val (.int n), .val (.int ia), .val (.int ib), .val (.int ic), .unset, .unset, .unset] [(.int i4)])
  refine Ends.by (X0.ldcInt hx hown (mvT hZ (hw _ (List.mem_of_getElem? (i := 0) rfl))) (g := (mkF m 38 #[.val (.int i0), .val (.int i1), .val (.int i2), .val (.int i3), .val (.int i4), .val (.int n), .val (.int ia), .val (.int ib), .val (.int ic), .unset, .unset, .unset] [(.int i4)])) rfl (hb hby at_38)) ?_
  show Ends p e below _ s₁ (mkF m 40 #[.val (.int i0), .val (.int i1), .val (.int i2), .val (.int i3), .val (.int i4), .val (.int n), .val (.int ia), .val (.int ib), .val (.int ic), .unset, .unset, .unset] [(.int (2147483647 : Int32)), (.int i4)])
  refine Ends.by (fun _ => XS.iand X0.here hx rfl (hb hby at_40) rfl) ?_
  show Ends p e below _ s₁ (mkF m 41 #[.val (.int i0), .val (.int i1), .val (.int i2), .val (.int i3), .val (.int i4), .val (.int n), .val (.int ia), .val (.int ib), .val (.int ic), .unset, .unset, .unset] [(.int (i4 &&& (2147483647 : Int32)))])
  refine Ends.by (fun _ => XS.iload X0.here hx rfl (hb hby at_41) rfl) ?_
  show Ends p e below _ s₁ (mkF m 43 #[.val (.int i0), .val (.int i1), .val (.int i2), .val (.int i3), .val (.int i4), .val (.int n), .val (.int ia), .val (.int ib), .val (.int ic), .unset, .unset, .unset] [(.int n), (.int (i4 &&& (2147483647 : Int32)))])
  refine Ends.by (fun _ => iremM (g := (mkF m 43 #[.val (.int i0), .val (.int i1), .val (.int i2), .val (.int i3), .val (.int i4), .val (.int n), .val (.int ia), .val (.int ib), .val (.int ic), .unset, .unset, .unset] [(.int n), (.int (i4 &&& (2147483647 : Int32)))])) X0 hx rfl (hb hby at_43) rfl (own_nz hn)) ?_
  show Ends p e below _ s₁ (mkF m 44 #[.val (.int i0), .val (.int i1), .val (.int i2), .val (.int i3), .val (.int i4), .val (.int n), .val (.int ia), .val (.int ib), .val (.int ic), .unset, .unset, .unset] [(.int ((i4 &&& (2147483647 : Int32)) % n))])
  refine Ends.by (fun _ => XS.istore X0.here hx rfl (hb hby at_44) rfl (l' := #[.val (.int i0), .val (.int i1), .val (.int i2), .val (.int i3), .val (.int i4), .val (.int n), .val (.int ia), .val (.int ib), .val (.int ic), .val (.int ((i4 &&& (2147483647 : Int32)) % n)), .unset, .unset]) rfl) ?_
  show Ends p e below _ s₁ (mkF m 46 #[.val (.int i0), .val (.int i1), .val (.int i2), .val (.int i3), .val (.int i4), .val (.int n), .val (.int ia), .val (.int ib), .val (.int ic), .val (.int ((i4 &&& (2147483647 : Int32)) % n)), .unset, .unset] [])
  have hiq := own_rem i4 hn
  generalize ((i4 &&& (2147483647 : Int32)) % n) = iq at hiq ⊢
  show Ends p e below _ s₁ (mkF m 46 #[.val (.int i0), .val (.int i1), .val (.int i2), .val (.int i3), .val (.int i4), .val (.int n), .val (.int ia), .val (.int ib), .val (.int ic), .val (.int iq), .unset, .unset] [])
  obtain ⟨Na, hNa, la⟩ := hia
  obtain ⟨Nb, hNb, lb⟩ := hib
  obtain ⟨Nc, hNc, lc⟩ := hic
  obtain ⟨Nq, hNq, lq⟩ := hiq
  obtain ⟨k, hk⟩ := own_words hn
  obtain ⟨T1, h1, X1, e1, E1, A1, D1, -, st1⟩ := newO X0 hx hZ hown (hw _ (List.mem_of_getElem? (i := 1) rfl)) (hw _ (List.mem_of_getElem? (i := 2) rfl)) (hw _ (List.mem_of_getElem? (i := 3) rfl)) e0 (g := (mkF m 46 #[.val (.int i0), .val (.int i1), .val (.int i2), .val (.int i3), .val (.int i4), .val (.int n), .val (.int ia), .val (.int ib), .val (.int ic), .val (.int iq), .unset, .unset] [])) rfl (hb hby at_46) (by decide) (by decide)
  obtain ⟨b1, g1⟩ : ∃ z, z = h0.size := ⟨_, rfl⟩
  rw [← g1] at A1 D1 st1
  refine Ends.by st1 ?_
  have Z1 : n0 ≤ h1.size := Nat.le_trans Z0 E1.1
  have g_b1 : n0 ≤ b1 := Nat.le_trans Z0 (Nat.le_of_eq g1.symm)
  have F_b1_words : Fld Z h1 b1 "com/example/tiefast/tiefast/Bits" "words" "[J" .null := D1 (Or.inr (hw _ (List.mem_of_getElem? (i := 12) rfl))) (ty := (.array .long)) (by decide)
  show Ends p e below _ T1 (mkF m 49 #[.val (.int i0), .val (.int i1), .val (.int i2), .val (.int i3), .val (.int i4), .val (.int n), .val (.int ia), .val (.int ib), .val (.int ic), .val (.int iq), .unset, .unset] [(.ref b1)])
  refine Ends.by (fun _ => XS.dup X1.here hx rfl (hb hby at_49) rfl rfl) ?_
  show Ends p e below _ T1 (mkF m 50 #[.val (.int i0), .val (.int i1), .val (.int i2), .val (.int i3), .val (.int i4), .val (.int n), .val (.int ia), .val (.int ib), .val (.int ic), .val (.int iq), .unset, .unset] [(.ref b1), (.ref b1)])
  refine Ends.by (fun _ => XS.iload X1.here hx rfl (hb hby at_50) rfl) ?_
  show Ends p e below _ T1 (mkF m 52 #[.val (.int i0), .val (.int i1), .val (.int i2), .val (.int i3), .val (.int i4), .val (.int n), .val (.int ia), .val (.int ib), .val (.int ic), .val (.int iq), .unset, .unset] [(.int n), (.ref b1), (.ref b1)])
  refine Ends.callI (a := b1) (argsL := [(.int n)]) (rest := [(.ref b1)]) X1 hx hZ rfl hown (hw _ (List.mem_of_getElem? (i := 4) rfl)) (hw _ (List.mem_of_getElem? (i := 5) rfl)) (hw _ (List.mem_of_getElem? (i := 3) rfl)) (hw _ (List.mem_of_getElem? (i := 6) rfl)) (by decide) (con_1 l Z a0 hw b1 n k h1 n0 Z1 A1 F_b1_words g_b1 hk.1 hk.2.1) e1 (by rw [hml]; rfl) (hb hby at_52) (lenOf pd_1 rfl) 1 (Nat.le_of_eq rfl) (by decide) (by decide) (by decide) (by decide) ?_
  intro v T2 L2 X2 hQ
  obtain ⟨ar, rfl, N2q, K2q, E2q, F2q, A2q, gar⟩ := hQ
  have N2 := Fr.app N0 N2q
  have E_b1_2 : Exa Z T2.heap b1 "com/example/tiefast/tiefast/Bits" := A1.keep K2q
  have Z2 : n0 ≤ T2.heap.size := Nat.le_trans Z1 K2q.1
  show Ends p e below _ T2 (mkF m 55 #[.val (.int i0), .val (.int i1), .val (.int i2), .val (.int i3), .val (.int i4), .val (.int n), .val (.int ia), .val (.int ib), .val (.int ic), .val (.int iq), .unset, .unset] [(.ref b1)])
  refine Ends.by (fun _ => XS.astore X2.here hx rfl (hb hby at_55) rfl rfl (l' := #[.val (.int i0), .val (.int i1), .val (.int i2), .val (.int i3), .val (.int i4), .val (.int n), .val (.int ia), .val (.int ib), .val (.int ic), .val (.int iq), .val (.ref b1), .unset]) rfl) ?_
  show Ends p e below _ T2 (mkF m 57 #[.val (.int i0), .val (.int i1), .val (.int i2), .val (.int i3), .val (.int i4), .val (.int n), .val (.int ia), .val (.int ib), .val (.int ic), .val (.int iq), .val (.ref b1), .unset] [])
  refine Ends.by (fun _ => XS.aload X2.here hx rfl (hb hby at_57) rfl rfl) ?_
  show Ends p e below _ T2 (mkF m 59 #[.val (.int i0), .val (.int i1), .val (.int i2), .val (.int i3), .val (.int i4), .val (.int n), .val (.int ia), .val (.int ib), .val (.int ic), .val (.int iq), .val (.ref b1), .unset] [(.ref b1)])
  refine Ends.by (fun _ => XS.iload X2.here hx rfl (hb hby at_59) rfl) ?_
  show Ends p e below _ T2 (mkF m 61 #[.val (.int i0), .val (.int i1), .val (.int i2), .val (.int i3), .val (.int i4), .val (.int n), .val (.int ia), .val (.int ib), .val (.int ic), .val (.int iq), .val (.ref b1), .unset] [(.int ia), (.ref b1)])
  refine Ends.callV (a := b1) (argsL := [(.int ia)]) (rest := []) X2 hx hZ hown (hw _ (List.mem_of_getElem? (i := 13) rfl)) (hw _ (List.mem_of_getElem? (i := 14) rfl)) (hw _ (List.mem_of_getElem? (i := 15) rfl)) (hw _ (List.mem_of_getElem? (i := 16) rfl)) (hw _ (List.mem_of_getElem? (i := 3) rfl)) (hw _ (List.mem_of_getElem? (i := 17) rfl)) (by decide) (con_3 l Z a0 hw b1 ia ar k Na (fun _ => (0 : Int64)) T2.heap n0 Z2 E2q F2q A2q hNa (hk.2.2 _ la) gar) rfl E2q (by rw [hml]; rfl) (hb hby at_61) (lenOf pd_3 rfl) 0 (Nat.le_of_eq rfl) (by decide) (by decide) (by decide) (by decide) ?_
  intro v T3 L3 X3 hQ
  obtain ⟨rfl, N3q, K3q, A3q⟩ := hQ
  have N3 := Fr.app N2 N3q
  have E_b1_3 : Exa Z T3.heap b1 "com/example/tiefast/tiefast/Bits" := E2q.keep K3q
  have F_b1_words_3 : Fld Z T3.heap b1 "com/example/tiefast/tiefast/Bits" "words" "[J" (.ref ar) := F2q.keep K3q (ninS (own_apart E2q A2q (hw _ (List.mem_of_getElem? (i := 2) rfl))) nin0)
  have Z3 : n0 ≤ T3.heap.size := Nat.le_trans Z2 K3q.1
  show Ends p e below _ T3 (mkF m 64 #[.val (.int i0), .val (.int i1), .val (.int i2), .val (.int i3), .val (.int i4), .val (.int n), .val (.int ia), .val (.int ib), .val (.int ic), .val (.int iq), .val (.ref b1), .unset] [])
  refine Ends.by (fun _ => XS.aload X3.here hx rfl (hb hby at_64) rfl rfl) ?_
  show Ends p e below _ T3 (mkF m 66 #[.val (.int i0), .val (.int i1), .val (.int i2), .val (.int i3), .val (.int i4), .val (.int n), .val (.int ia), .val (.int ib), .val (.int ic), .val (.int iq), .val (.ref b1), .unset] [(.ref b1)])
  refine Ends.by (fun _ => XS.iload X3.here hx rfl (hb hby at_66) rfl) ?_
  show Ends p e below _ T3 (mkF m 68 #[.val (.int i0), .val (.int i1), .val (.int i2), .val (.int i3), .val (.int i4), .val (.int n), .val (.int ia), .val (.int ib), .val (.int ic), .val (.int iq), .val (.ref b1), .unset] [(.int ic), (.ref b1)])
  refine Ends.callV (a := b1) (argsL := [(.int ic)]) (rest := []) X3 hx hZ hown (hw _ (List.mem_of_getElem? (i := 18) rfl)) (hw _ (List.mem_of_getElem? (i := 19) rfl)) (hw _ (List.mem_of_getElem? (i := 20) rfl)) (hw _ (List.mem_of_getElem? (i := 21) rfl)) (hw _ (List.mem_of_getElem? (i := 3) rfl)) (hw _ (List.mem_of_getElem? (i := 22) rfl)) (by decide) (con_4 l Z a0 hw b1 ic ar k Nc (upd (fun _ => (0 : Int64)) (Na / 64) (((fun _ => (0 : Int64)) (Na / 64)) ||| own_bit ia)) T3.heap n0 Z3 E_b1_3 F_b1_words_3 A3q hNc (hk.2.2 _ lc) gar) rfl E_b1_3 (by rw [hml]; rfl) (hb hby at_68) (lenOf pd_4 rfl) 0 (Nat.le_of_eq rfl) (by decide) (by decide) (by decide) (by decide) ?_
  intro v T4 L4 X4 hQ
  obtain ⟨rfl, N4q, K4q, A4q⟩ := hQ
  have N4 := Fr.app N3 N4q
  have E_b1_4 : Exa Z T4.heap b1 "com/example/tiefast/tiefast/Bits" := E_b1_3.keep K4q
  have F_b1_words_4 : Fld Z T4.heap b1 "com/example/tiefast/tiefast/Bits" "words" "[J" (.ref ar) := F_b1_words_3.keep K4q (ninS (own_apart E_b1_3 A3q (hw _ (List.mem_of_getElem? (i := 2) rfl))) nin0)
  have Z4 : n0 ≤ T4.heap.size := Nat.le_trans Z3 K4q.1
  show Ends p e below _ T4 (mkF m 71 #[.val (.int i0), .val (.int i1), .val (.int i2), .val (.int i3), .val (.int i4), .val (.int n), .val (.int ia), .val (.int ib), .val (.int ic), .val (.int iq), .val (.ref b1), .unset] [])
  refine Ends.by (fun _ => XS.aload X4.here hx rfl (hb hby at_71) rfl rfl) ?_
  show Ends p e below _ T4 (mkF m 73 #[.val (.int i0), .val (.int i1), .val (.int i2), .val (.int i3), .val (.int i4), .val (.int n), .val (.int ia), .val (.int ib), .val (.int ic), .val (.int iq), .val (.ref b1), .unset] [(.ref b1)])
  refine Ends.by (fun _ => XS.iload X4.here hx rfl (hb hby at_73) rfl) ?_
  show Ends p e below _ T4 (mkF m 75 #[.val (.int i0), .val (.int i1), .val (.int i2), .val (.int i3), .val (.int i4), .val (.int n), .val (.int ia), .val (.int ib), .val (.int ic), .val (.int iq), .val (.ref b1), .unset] [(.int ib), (.ref b1)])
  refine Ends.callV (a := b1) (argsL := [(.int ib)]) (rest := []) X4 hx hZ hown (hw _ (List.mem_of_getElem? (i := 13) rfl)) (hw _ (List.mem_of_getElem? (i := 14) rfl)) (hw _ (List.mem_of_getElem? (i := 15) rfl)) (hw _ (List.mem_of_getElem? (i := 16) rfl)) (hw _ (List.mem_of_getElem? (i := 3) rfl)) (hw _ (List.mem_of_getElem? (i := 17) rfl)) (by decide) (con_3 l Z a0 hw b1 ib ar k Nb (upd (upd (fun _ => (0 : Int64)) (Na / 64) (((fun _ => (0 : Int64)) (Na / 64)) ||| own_bit ia)) (Nc / 64) (((upd (fun _ => (0 : Int64)) (Na / 64) (((fun _ => (0 : Int64)) (Na / 64)) ||| own_bit ia)) (Nc / 64)) &&& (own_bit ic ^^^ (-1 : Int64)))) T4.heap n0 Z4 E_b1_4 F_b1_words_4 A4q hNb (hk.2.2 _ lb) gar) rfl E_b1_4 (by rw [hml]; rfl) (hb hby at_75) (lenOf pd_3 rfl) 0 (Nat.le_of_eq rfl) (by decide) (by decide) (by decide) (by decide) ?_
  intro v T5 L5 X5 hQ
  obtain ⟨rfl, N5q, K5q, A5q⟩ := hQ
  have N5 := Fr.app N4 N5q
  have E_b1_5 : Exa Z T5.heap b1 "com/example/tiefast/tiefast/Bits" := E_b1_4.keep K5q
  have F_b1_words_5 : Fld Z T5.heap b1 "com/example/tiefast/tiefast/Bits" "words" "[J" (.ref ar) := F_b1_words_4.keep K5q (ninS (own_apart E_b1_4 A4q (hw _ (List.mem_of_getElem? (i := 2) rfl))) nin0)
  have Z5 : n0 ≤ T5.heap.size := Nat.le_trans Z4 K5q.1
  show Ends p e below _ T5 (mkF m 78 #[.val (.int i0), .val (.int i1), .val (.int i2), .val (.int i3), .val (.int i4), .val (.int n), .val (.int ia), .val (.int ib), .val (.int ic), .val (.int iq), .val (.ref b1), .unset] [])
  refine Ends.by (fun _ => XS.iload X5.here hx rfl (hb hby at_78) rfl) ?_
  show Ends p e below _ T5 (mkF m 80 #[.val (.int i0), .val (.int i1), .val (.int i2), .val (.int i3), .val (.int i4), .val (.int n), .val (.int ia), .val (.int ib), .val (.int ic), .val (.int iq), .val (.ref b1), .unset] [(.int iq)])
  refine Ends.by (fun _ => XS.iload X5.here hx rfl (hb hby at_80) rfl) ?_
  show Ends p e below _ T5 (mkF m 82 #[.val (.int i0), .val (.int i1), .val (.int i2), .val (.int i3), .val (.int i4), .val (.int n), .val (.int ia), .val (.int ib), .val (.int ic), .val (.int iq), .val (.ref b1), .unset] [(.int ib), (.int iq)])
  refine Ends.icmp X5 hx (hb hby at_82) 99 (by decide) (by decide) (fun q => ?_) (fun q => ?_)
  · have c82 : iq = ib := own_eq.1 q
    show Ends p e below _ T5 (mkF m 99 #[.val (.int i0), .val (.int i1), .val (.int i2), .val (.int i3), .val (.int i4), .val (.int n), .val (.int ia), .val (.int ib), .val (.int ic), .val (.int iq), .val (.ref b1), .unset] [])
    refine Ends.by (fun _ => XS.iconst X5.here hx rfl (hb hby at_99)) ?_
    show Ends p e below _ T5 (mkF m 100 #[.val (.int i0), .val (.int i1), .val (.int i2), .val (.int i3), .val (.int i4), .val (.int n), .val (.int ia), .val (.int ib), .val (.int ic), .val (.int iq), .val (.ref b1), .unset] [(.int (1 : Int32))])
    refine Ends.by (fun _ => XS.goto X5.here hx rfl (pc0 := 100) (pc' := 104) rfl (hb hby at_100) (by decide) (by decide)) ?_
    show Ends p e below _ T5 (mkF m 104 #[.val (.int i0), .val (.int i1), .val (.int i2), .val (.int i3), .val (.int i4), .val (.int n), .val (.int ia), .val (.int ib), .val (.int ic), .val (.int iq), .val (.ref b1), .unset] [(.int (1 : Int32))])
    refine Ends.by (fun _ => XS.istore X5.here hx rfl (hb hby at_104) rfl (l' := #[.val (.int i0), .val (.int i1), .val (.int i2), .val (.int i3), .val (.int i4), .val (.int n), .val (.int ia), .val (.int ib), .val (.int ic), .val (.int iq), .val (.ref b1), .val (.int (1 : Int32))]) rfl) ?_
    show Ends p e below _ T5 (mkF m 106 #[.val (.int i0), .val (.int i1), .val (.int i2), .val (.int i3), .val (.int i4), .val (.int n), .val (.int ia), .val (.int ib), .val (.int ic), .val (.int iq), .val (.ref b1), .val (.int (1 : Int32))] [])
    refine Ends.by (fun _ => XS.aload X5.here hx rfl (hb hby at_106) rfl rfl) ?_
    show Ends p e below _ T5 (mkF m 108 #[.val (.int i0), .val (.int i1), .val (.int i2), .val (.int i3), .val (.int i4), .val (.int n), .val (.int ia), .val (.int ib), .val (.int ic), .val (.int iq), .val (.ref b1), .val (.int (1 : Int32))] [(.ref b1)])
    refine Ends.by (fun _ => XS.iload X5.here hx rfl (hb hby at_108) rfl) ?_
    show Ends p e below _ T5 (mkF m 110 #[.val (.int i0), .val (.int i1), .val (.int i2), .val (.int i3), .val (.int i4), .val (.int n), .val (.int ia), .val (.int ib), .val (.int ic), .val (.int iq), .val (.ref b1), .val (.int (1 : Int32))] [(.int iq), (.ref b1)])
    refine Ends.callV (a := b1) (argsL := [(.int iq)]) (rest := []) X5 hx hZ hown (hw _ (List.mem_of_getElem? (i := 24) rfl)) (hw _ (List.mem_of_getElem? (i := 25) rfl)) (hw _ (List.mem_of_getElem? (i := 26) rfl)) (hw _ (List.mem_of_getElem? (i := 27) rfl)) (hw _ (List.mem_of_getElem? (i := 3) rfl)) (hw _ (List.mem_of_getElem? (i := 28) rfl)) (by decide) (con_5 l Z a0 hw b1 iq ar k Nq (upd (upd (upd (fun _ => (0 : Int64)) (Na / 64) (((fun _ => (0 : Int64)) (Na / 64)) ||| own_bit ia)) (Nc / 64) (((upd (fun _ => (0 : Int64)) (Na / 64) (((fun _ => (0 : Int64)) (Na / 64)) ||| own_bit ia)) (Nc / 64)) &&& (own_bit ic ^^^ (-1 : Int64)))) (Nb / 64) (((upd (upd (fun _ => (0 : Int64)) (Na / 64) (((fun _ => (0 : Int64)) (Na / 64)) ||| own_bit ia)) (Nc / 64) (((upd (fun _ => (0 : Int64)) (Na / 64) (((fun _ => (0 : Int64)) (Na / 64)) ||| own_bit ia)) (Nc / 64)) &&& (own_bit ic ^^^ (-1 : Int64)))) (Nb / 64)) ||| own_bit ib)) T5.heap n0 Z5 E_b1_5 F_b1_words_5 A5q hNq (hk.2.2 _ lq)) rfl E_b1_5 (by rw [hml]; rfl) (hb hby at_110) (lenOf pd_5 rfl) 0 (Nat.le_of_eq rfl) (by decide) (by decide) (by decide) (by decide) ?_
    intro v T6 L6 X6 hQ
    obtain ⟨rfl, e6, rfl⟩ := hQ
    rw [List.append_nil] at X6
    show Ends p e below _ T6 (mkF m 113 #[.val (.int i0), .val (.int i1), .val (.int i2), .val (.int i3), .val (.int i4), .val (.int n), .val (.int ia), .val (.int ib), .val (.int ic), .val (.int iq), .val (.ref b1), .val (.int (1 : Int32))] [(.int (own_get ((upd (upd (upd (fun _ => (0 : Int64)) (Na / 64) (((fun _ => (0 : Int64)) (Na / 64)) ||| own_bit ia)) (Nc / 64) (((upd (fun _ => (0 : Int64)) (Na / 64) (((fun _ => (0 : Int64)) (Na / 64)) ||| own_bit ia)) (Nc / 64)) &&& (own_bit ic ^^^ (-1 : Int64)))) (Nb / 64) (((upd (upd (fun _ => (0 : Int64)) (Na / 64) (((fun _ => (0 : Int64)) (Na / 64)) ||| own_bit ia)) (Nc / 64) (((upd (fun _ => (0 : Int64)) (Na / 64) (((fun _ => (0 : Int64)) (Na / 64)) ||| own_bit ia)) (Nc / 64)) &&& (own_bit ic ^^^ (-1 : Int64)))) (Nb / 64)) ||| own_bit ib)) (Nq / 64) &&& own_bit iq)))])
    refine Ends.by (fun _ => XS.iload X6.here hx rfl (hb hby at_113) rfl) ?_
    show Ends p e below _ T6 (mkF m 115 #[.val (.int i0), .val (.int i1), .val (.int i2), .val (.int i3), .val (.int i4), .val (.int n), .val (.int ia), .val (.int ib), .val (.int ic), .val (.int iq), .val (.ref b1), .val (.int (1 : Int32))] [(.int (1 : Int32)), (.int (own_get ((upd (upd (upd (fun _ => (0 : Int64)) (Na / 64) (((fun _ => (0 : Int64)) (Na / 64)) ||| own_bit ia)) (Nc / 64) (((upd (fun _ => (0 : Int64)) (Na / 64) (((fun _ => (0 : Int64)) (Na / 64)) ||| own_bit ia)) (Nc / 64)) &&& (own_bit ic ^^^ (-1 : Int64)))) (Nb / 64) (((upd (upd (fun _ => (0 : Int64)) (Na / 64) (((fun _ => (0 : Int64)) (Na / 64)) ||| own_bit ia)) (Nc / 64) (((upd (fun _ => (0 : Int64)) (Na / 64) (((fun _ => (0 : Int64)) (Na / 64)) ||| own_bit ia)) (Nc / 64)) &&& (own_bit ic ^^^ (-1 : Int64)))) (Nb / 64)) ||| own_bit ib)) (Nq / 64) &&& own_bit iq)))])
    refine Ends.icmp X6 hx (hb hby at_115) 122 (by decide) (by decide) (fun q => ?_) (fun q => ?_)
    · have c115 : ¬ ((own_get ((upd (upd (upd (fun _ => (0 : Int64)) (Na / 64) (((fun _ => (0 : Int64)) (Na / 64)) ||| own_bit ia)) (Nc / 64) (((upd (fun _ => (0 : Int64)) (Na / 64) (((fun _ => (0 : Int64)) (Na / 64)) ||| own_bit ia)) (Nc / 64)) &&& (own_bit ic ^^^ (-1 : Int64)))) (Nb / 64) (((upd (upd (fun _ => (0 : Int64)) (Na / 64) (((fun _ => (0 : Int64)) (Na / 64)) ||| own_bit ia)) (Nc / 64) (((upd (fun _ => (0 : Int64)) (Na / 64) (((fun _ => (0 : Int64)) (Na / 64)) ||| own_bit ia)) (Nc / 64)) &&& (own_bit ic ^^^ (-1 : Int64)))) (Nb / 64)) ||| own_bit ib)) (Nq / 64) &&& own_bit iq)) = (1 : Int32)) := own_ne.1 q
      exact absurd ((own_law hNa hNb hNc hNq _ rfl).trans (if_pos (Or.inl c82))) c115
    · have c115 : (own_get ((upd (upd (upd (fun _ => (0 : Int64)) (Na / 64) (((fun _ => (0 : Int64)) (Na / 64)) ||| own_bit ia)) (Nc / 64) (((upd (fun _ => (0 : Int64)) (Na / 64) (((fun _ => (0 : Int64)) (Na / 64)) ||| own_bit ia)) (Nc / 64)) &&& (own_bit ic ^^^ (-1 : Int64)))) (Nb / 64) (((upd (upd (fun _ => (0 : Int64)) (Na / 64) (((fun _ => (0 : Int64)) (Na / 64)) ||| own_bit ia)) (Nc / 64) (((upd (fun _ => (0 : Int64)) (Na / 64) (((fun _ => (0 : Int64)) (Na / 64)) ||| own_bit ia)) (Nc / 64)) &&& (own_bit ic ^^^ (-1 : Int64)))) (Nb / 64)) ||| own_bit ib)) (Nq / 64) &&& own_bit iq)) = (1 : Int32) := own_ne.2 q
      show Ends p e below _ T6 (mkF m 118 #[.val (.int i0), .val (.int i1), .val (.int i2), .val (.int i3), .val (.int i4), .val (.int n), .val (.int ia), .val (.int ib), .val (.int ic), .val (.int iq), .val (.ref b1), .val (.int (1 : Int32))] [])
      refine Ends.by (fun _ => XS.iconst X6.here hx rfl (hb hby at_118)) ?_
      show Ends p e below _ T6 (mkF m 119 #[.val (.int i0), .val (.int i1), .val (.int i2), .val (.int i3), .val (.int i4), .val (.int n), .val (.int ia), .val (.int ib), .val (.int ic), .val (.int iq), .val (.ref b1), .val (.int (1 : Int32))] [(.int (1 : Int32))])
      refine Ends.by (fun _ => XS.goto X6.here hx rfl (pc0 := 119) (pc' := 123) rfl (hb hby at_119) (by decide) (by decide)) ?_
      show Ends p e below _ T6 (mkF m 123 #[.val (.int i0), .val (.int i1), .val (.int i2), .val (.int i3), .val (.int i4), .val (.int n), .val (.int ia), .val (.int ib), .val (.int ic), .val (.int iq), .val (.ref b1), .val (.int (1 : Int32))] [(.int (1 : Int32))])
      exact Ends.retZ X6 hx hlk hret (hb hby at_123) (by first | decide | (simp; done)) (by decide) (by decide) (⟨rfl, N5⟩)
  · have c82 : ¬ (iq = ib) := own_eq.2 q
    show Ends p e below _ T5 (mkF m 85 #[.val (.int i0), .val (.int i1), .val (.int i2), .val (.int i3), .val (.int i4), .val (.int n), .val (.int ia), .val (.int ib), .val (.int ic), .val (.int iq), .val (.ref b1), .unset] [])
    refine Ends.by (fun _ => XS.iload X5.here hx rfl (hb hby at_85) rfl) ?_
    show Ends p e below _ T5 (mkF m 87 #[.val (.int i0), .val (.int i1), .val (.int i2), .val (.int i3), .val (.int i4), .val (.int n), .val (.int ia), .val (.int ib), .val (.int ic), .val (.int iq), .val (.ref b1), .unset] [(.int iq)])
    refine Ends.by (fun _ => XS.iload X5.here hx rfl (hb hby at_87) rfl) ?_
    show Ends p e below _ T5 (mkF m 89 #[.val (.int i0), .val (.int i1), .val (.int i2), .val (.int i3), .val (.int i4), .val (.int n), .val (.int ia), .val (.int ib), .val (.int ic), .val (.int iq), .val (.ref b1), .unset] [(.int ia), (.int iq)])
    refine Ends.icmp X5 hx (hb hby at_89) 103 (by decide) (by decide) (fun q => ?_) (fun q => ?_)
    · have c89 : ¬ (iq = ia) := own_ne.1 q
      show Ends p e below _ T5 (mkF m 103 #[.val (.int i0), .val (.int i1), .val (.int i2), .val (.int i3), .val (.int i4), .val (.int n), .val (.int ia), .val (.int ib), .val (.int ic), .val (.int iq), .val (.ref b1), .unset] [])
      refine Ends.by (fun _ => XS.iconst X5.here hx rfl (hb hby at_103)) ?_
      show Ends p e below _ T5 (mkF m 104 #[.val (.int i0), .val (.int i1), .val (.int i2), .val (.int i3), .val (.int i4), .val (.int n), .val (.int ia), .val (.int ib), .val (.int ic), .val (.int iq), .val (.ref b1), .unset] [(.int (0 : Int32))])
      refine Ends.by (fun _ => XS.istore X5.here hx rfl (hb hby at_104) rfl (l' := #[.val (.int i0), .val (.int i1), .val (.int i2), .val (.int i3), .val (.int i4), .val (.int n), .val (.int ia), .val (.int ib), .val (.int ic), .val (.int iq), .val (.ref b1), .val (.int (0 : Int32))]) rfl) ?_
      show Ends p e below _ T5 (mkF m 106 #[.val (.int i0), .val (.int i1), .val (.int i2), .val (.int i3), .val (.int i4), .val (.int n), .val (.int ia), .val (.int ib), .val (.int ic), .val (.int iq), .val (.ref b1), .val (.int (0 : Int32))] [])
      refine Ends.by (fun _ => XS.aload X5.here hx rfl (hb hby at_106) rfl rfl) ?_
      show Ends p e below _ T5 (mkF m 108 #[.val (.int i0), .val (.int i1), .val (.int i2), .val (.int i3), .val (.int i4), .val (.int n), .val (.int ia), .val (.int ib), .val (.int ic), .val (.int iq), .val (.ref b1), .val (.int (0 : Int32))] [(.ref b1)])
      refine Ends.by (fun _ => XS.iload X5.here hx rfl (hb hby at_108) rfl) ?_
      show Ends p e below _ T5 (mkF m 110 #[.val (.int i0), .val (.int i1), .val (.int i2), .val (.int i3), .val (.int i4), .val (.int n), .val (.int ia), .val (.int ib), .val (.int ic), .val (.int iq), .val (.ref b1), .val (.int (0 : Int32))] [(.int iq), (.ref b1)])
      refine Ends.callV (a := b1) (argsL := [(.int iq)]) (rest := []) X5 hx hZ hown (hw _ (List.mem_of_getElem? (i := 24) rfl)) (hw _ (List.mem_of_getElem? (i := 25) rfl)) (hw _ (List.mem_of_getElem? (i := 26) rfl)) (hw _ (List.mem_of_getElem? (i := 27) rfl)) (hw _ (List.mem_of_getElem? (i := 3) rfl)) (hw _ (List.mem_of_getElem? (i := 28) rfl)) (by decide) (con_5 l Z a0 hw b1 iq ar k Nq (upd (upd (upd (fun _ => (0 : Int64)) (Na / 64) (((fun _ => (0 : Int64)) (Na / 64)) ||| own_bit ia)) (Nc / 64) (((upd (fun _ => (0 : Int64)) (Na / 64) (((fun _ => (0 : Int64)) (Na / 64)) ||| own_bit ia)) (Nc / 64)) &&& (own_bit ic ^^^ (-1 : Int64)))) (Nb / 64) (((upd (upd (fun _ => (0 : Int64)) (Na / 64) (((fun _ => (0 : Int64)) (Na / 64)) ||| own_bit ia)) (Nc / 64) (((upd (fun _ => (0 : Int64)) (Na / 64) (((fun _ => (0 : Int64)) (Na / 64)) ||| own_bit ia)) (Nc / 64)) &&& (own_bit ic ^^^ (-1 : Int64)))) (Nb / 64)) ||| own_bit ib)) T5.heap n0 Z5 E_b1_5 F_b1_words_5 A5q hNq (hk.2.2 _ lq)) rfl E_b1_5 (by rw [hml]; rfl) (hb hby at_110) (lenOf pd_5 rfl) 0 (Nat.le_of_eq rfl) (by decide) (by decide) (by decide) (by decide) ?_
      intro v T7 L7 X7 hQ
      obtain ⟨rfl, e7, rfl⟩ := hQ
      rw [List.append_nil] at X7
      show Ends p e below _ T7 (mkF m 113 #[.val (.int i0), .val (.int i1), .val (.int i2), .val (.int i3), .val (.int i4), .val (.int n), .val (.int ia), .val (.int ib), .val (.int ic), .val (.int iq), .val (.ref b1), .val (.int (0 : Int32))] [(.int (own_get ((upd (upd (upd (fun _ => (0 : Int64)) (Na / 64) (((fun _ => (0 : Int64)) (Na / 64)) ||| own_bit ia)) (Nc / 64) (((upd (fun _ => (0 : Int64)) (Na / 64) (((fun _ => (0 : Int64)) (Na / 64)) ||| own_bit ia)) (Nc / 64)) &&& (own_bit ic ^^^ (-1 : Int64)))) (Nb / 64) (((upd (upd (fun _ => (0 : Int64)) (Na / 64) (((fun _ => (0 : Int64)) (Na / 64)) ||| own_bit ia)) (Nc / 64) (((upd (fun _ => (0 : Int64)) (Na / 64) (((fun _ => (0 : Int64)) (Na / 64)) ||| own_bit ia)) (Nc / 64)) &&& (own_bit ic ^^^ (-1 : Int64)))) (Nb / 64)) ||| own_bit ib)) (Nq / 64) &&& own_bit iq)))])
      refine Ends.by (fun _ => XS.iload X7.here hx rfl (hb hby at_113) rfl) ?_
      show Ends p e below _ T7 (mkF m 115 #[.val (.int i0), .val (.int i1), .val (.int i2), .val (.int i3), .val (.int i4), .val (.int n), .val (.int ia), .val (.int ib), .val (.int ic), .val (.int iq), .val (.ref b1), .val (.int (0 : Int32))] [(.int (0 : Int32)), (.int (own_get ((upd (upd (upd (fun _ => (0 : Int64)) (Na / 64) (((fun _ => (0 : Int64)) (Na / 64)) ||| own_bit ia)) (Nc / 64) (((upd (fun _ => (0 : Int64)) (Na / 64) (((fun _ => (0 : Int64)) (Na / 64)) ||| own_bit ia)) (Nc / 64)) &&& (own_bit ic ^^^ (-1 : Int64)))) (Nb / 64) (((upd (upd (fun _ => (0 : Int64)) (Na / 64) (((fun _ => (0 : Int64)) (Na / 64)) ||| own_bit ia)) (Nc / 64) (((upd (fun _ => (0 : Int64)) (Na / 64) (((fun _ => (0 : Int64)) (Na / 64)) ||| own_bit ia)) (Nc / 64)) &&& (own_bit ic ^^^ (-1 : Int64)))) (Nb / 64)) ||| own_bit ib)) (Nq / 64) &&& own_bit iq)))])
      refine Ends.icmp X7 hx (hb hby at_115) 122 (by decide) (by decide) (fun q => ?_) (fun q => ?_)
      · have c115 : ¬ ((own_get ((upd (upd (upd (fun _ => (0 : Int64)) (Na / 64) (((fun _ => (0 : Int64)) (Na / 64)) ||| own_bit ia)) (Nc / 64) (((upd (fun _ => (0 : Int64)) (Na / 64) (((fun _ => (0 : Int64)) (Na / 64)) ||| own_bit ia)) (Nc / 64)) &&& (own_bit ic ^^^ (-1 : Int64)))) (Nb / 64) (((upd (upd (fun _ => (0 : Int64)) (Na / 64) (((fun _ => (0 : Int64)) (Na / 64)) ||| own_bit ia)) (Nc / 64) (((upd (fun _ => (0 : Int64)) (Na / 64) (((fun _ => (0 : Int64)) (Na / 64)) ||| own_bit ia)) (Nc / 64)) &&& (own_bit ic ^^^ (-1 : Int64)))) (Nb / 64)) ||| own_bit ib)) (Nq / 64) &&& own_bit iq)) = (0 : Int32)) := own_ne.1 q
        exact absurd ((own_law hNa hNb hNc hNq _ rfl).trans (if_neg (fun z => z.elim c82 (fun y => c89 y.1)))) c115
      · have c115 : (own_get ((upd (upd (upd (fun _ => (0 : Int64)) (Na / 64) (((fun _ => (0 : Int64)) (Na / 64)) ||| own_bit ia)) (Nc / 64) (((upd (fun _ => (0 : Int64)) (Na / 64) (((fun _ => (0 : Int64)) (Na / 64)) ||| own_bit ia)) (Nc / 64)) &&& (own_bit ic ^^^ (-1 : Int64)))) (Nb / 64) (((upd (upd (fun _ => (0 : Int64)) (Na / 64) (((fun _ => (0 : Int64)) (Na / 64)) ||| own_bit ia)) (Nc / 64) (((upd (fun _ => (0 : Int64)) (Na / 64) (((fun _ => (0 : Int64)) (Na / 64)) ||| own_bit ia)) (Nc / 64)) &&& (own_bit ic ^^^ (-1 : Int64)))) (Nb / 64)) ||| own_bit ib)) (Nq / 64) &&& own_bit iq)) = (0 : Int32) := own_ne.2 q
        show Ends p e below _ T7 (mkF m 118 #[.val (.int i0), .val (.int i1), .val (.int i2), .val (.int i3), .val (.int i4), .val (.int n), .val (.int ia), .val (.int ib), .val (.int ic), .val (.int iq), .val (.ref b1), .val (.int (0 : Int32))] [])
        refine Ends.by (fun _ => XS.iconst X7.here hx rfl (hb hby at_118)) ?_
        show Ends p e below _ T7 (mkF m 119 #[.val (.int i0), .val (.int i1), .val (.int i2), .val (.int i3), .val (.int i4), .val (.int n), .val (.int ia), .val (.int ib), .val (.int ic), .val (.int iq), .val (.ref b1), .val (.int (0 : Int32))] [(.int (1 : Int32))])
        refine Ends.by (fun _ => XS.goto X7.here hx rfl (pc0 := 119) (pc' := 123) rfl (hb hby at_119) (by decide) (by decide)) ?_
        show Ends p e below _ T7 (mkF m 123 #[.val (.int i0), .val (.int i1), .val (.int i2), .val (.int i3), .val (.int i4), .val (.int n), .val (.int ia), .val (.int ib), .val (.int ic), .val (.int iq), .val (.ref b1), .val (.int (0 : Int32))] [(.int (1 : Int32))])
        exact Ends.retZ X7 hx hlk hret (hb hby at_123) (by first | decide | (simp; done)) (by decide) (by decide) (⟨rfl, N5⟩)
    · have c89 : iq = ia := own_ne.2 q
      show Ends p e below _ T5 (mkF m 92 #[.val (.int i0), .val (.int i1), .val (.int i2), .val (.int i3), .val (.int i4), .val (.int n), .val (.int ia), .val (.int ib), .val (.int ic), .val (.int iq), .val (.ref b1), .unset] [])
      refine Ends.by (fun _ => XS.iload X5.here hx rfl (hb hby at_92) rfl) ?_
      show Ends p e below _ T5 (mkF m 94 #[.val (.int i0), .val (.int i1), .val (.int i2), .val (.int i3), .val (.int i4), .val (.int n), .val (.int ia), .val (.int ib), .val (.int ic), .val (.int iq), .val (.ref b1), .unset] [(.int iq)])
      refine Ends.by (fun _ => XS.iload X5.here hx rfl (hb hby at_94) rfl) ?_
      show Ends p e below _ T5 (mkF m 96 #[.val (.int i0), .val (.int i1), .val (.int i2), .val (.int i3), .val (.int i4), .val (.int n), .val (.int ia), .val (.int ib), .val (.int ic), .val (.int iq), .val (.ref b1), .unset] [(.int ic), (.int iq)])
      refine Ends.icmp X5 hx (hb hby at_96) 103 (by decide) (by decide) (fun q => ?_) (fun q => ?_)
      · have c96 : iq = ic := own_eq.1 q
        show Ends p e below _ T5 (mkF m 103 #[.val (.int i0), .val (.int i1), .val (.int i2), .val (.int i3), .val (.int i4), .val (.int n), .val (.int ia), .val (.int ib), .val (.int ic), .val (.int iq), .val (.ref b1), .unset] [])
        refine Ends.by (fun _ => XS.iconst X5.here hx rfl (hb hby at_103)) ?_
        show Ends p e below _ T5 (mkF m 104 #[.val (.int i0), .val (.int i1), .val (.int i2), .val (.int i3), .val (.int i4), .val (.int n), .val (.int ia), .val (.int ib), .val (.int ic), .val (.int iq), .val (.ref b1), .unset] [(.int (0 : Int32))])
        refine Ends.by (fun _ => XS.istore X5.here hx rfl (hb hby at_104) rfl (l' := #[.val (.int i0), .val (.int i1), .val (.int i2), .val (.int i3), .val (.int i4), .val (.int n), .val (.int ia), .val (.int ib), .val (.int ic), .val (.int iq), .val (.ref b1), .val (.int (0 : Int32))]) rfl) ?_
        show Ends p e below _ T5 (mkF m 106 #[.val (.int i0), .val (.int i1), .val (.int i2), .val (.int i3), .val (.int i4), .val (.int n), .val (.int ia), .val (.int ib), .val (.int ic), .val (.int iq), .val (.ref b1), .val (.int (0 : Int32))] [])
        refine Ends.by (fun _ => XS.aload X5.here hx rfl (hb hby at_106) rfl rfl) ?_
        show Ends p e below _ T5 (mkF m 108 #[.val (.int i0), .val (.int i1), .val (.int i2), .val (.int i3), .val (.int i4), .val (.int n), .val (.int ia), .val (.int ib), .val (.int ic), .val (.int iq), .val (.ref b1), .val (.int (0 : Int32))] [(.ref b1)])
        refine Ends.by (fun _ => XS.iload X5.here hx rfl (hb hby at_108) rfl) ?_
        show Ends p e below _ T5 (mkF m 110 #[.val (.int i0), .val (.int i1), .val (.int i2), .val (.int i3), .val (.int i4), .val (.int n), .val (.int ia), .val (.int ib), .val (.int ic), .val (.int iq), .val (.ref b1), .val (.int (0 : Int32))] [(.int iq), (.ref b1)])
        refine Ends.callV (a := b1) (argsL := [(.int iq)]) (rest := []) X5 hx hZ hown (hw _ (List.mem_of_getElem? (i := 24) rfl)) (hw _ (List.mem_of_getElem? (i := 25) rfl)) (hw _ (List.mem_of_getElem? (i := 26) rfl)) (hw _ (List.mem_of_getElem? (i := 27) rfl)) (hw _ (List.mem_of_getElem? (i := 3) rfl)) (hw _ (List.mem_of_getElem? (i := 28) rfl)) (by decide) (con_5 l Z a0 hw b1 iq ar k Nq (upd (upd (upd (fun _ => (0 : Int64)) (Na / 64) (((fun _ => (0 : Int64)) (Na / 64)) ||| own_bit ia)) (Nc / 64) (((upd (fun _ => (0 : Int64)) (Na / 64) (((fun _ => (0 : Int64)) (Na / 64)) ||| own_bit ia)) (Nc / 64)) &&& (own_bit ic ^^^ (-1 : Int64)))) (Nb / 64) (((upd (upd (fun _ => (0 : Int64)) (Na / 64) (((fun _ => (0 : Int64)) (Na / 64)) ||| own_bit ia)) (Nc / 64) (((upd (fun _ => (0 : Int64)) (Na / 64) (((fun _ => (0 : Int64)) (Na / 64)) ||| own_bit ia)) (Nc / 64)) &&& (own_bit ic ^^^ (-1 : Int64)))) (Nb / 64)) ||| own_bit ib)) T5.heap n0 Z5 E_b1_5 F_b1_words_5 A5q hNq (hk.2.2 _ lq)) rfl E_b1_5 (by rw [hml]; rfl) (hb hby at_110) (lenOf pd_5 rfl) 0 (Nat.le_of_eq rfl) (by decide) (by decide) (by decide) (by decide) ?_
        intro v T8 L8 X8 hQ
        obtain ⟨rfl, e8, rfl⟩ := hQ
        rw [List.append_nil] at X8
        show Ends p e below _ T8 (mkF m 113 #[.val (.int i0), .val (.int i1), .val (.int i2), .val (.int i3), .val (.int i4), .val (.int n), .val (.int ia), .val (.int ib), .val (.int ic), .val (.int iq), .val (.ref b1), .val (.int (0 : Int32))] [(.int (own_get ((upd (upd (upd (fun _ => (0 : Int64)) (Na / 64) (((fun _ => (0 : Int64)) (Na / 64)) ||| own_bit ia)) (Nc / 64) (((upd (fun _ => (0 : Int64)) (Na / 64) (((fun _ => (0 : Int64)) (Na / 64)) ||| own_bit ia)) (Nc / 64)) &&& (own_bit ic ^^^ (-1 : Int64)))) (Nb / 64) (((upd (upd (fun _ => (0 : Int64)) (Na / 64) (((fun _ => (0 : Int64)) (Na / 64)) ||| own_bit ia)) (Nc / 64) (((upd (fun _ => (0 : Int64)) (Na / 64) (((fun _ => (0 : Int64)) (Na / 64)) ||| own_bit ia)) (Nc / 64)) &&& (own_bit ic ^^^ (-1 : Int64)))) (Nb / 64)) ||| own_bit ib)) (Nq / 64) &&& own_bit iq)))])
        refine Ends.by (fun _ => XS.iload X8.here hx rfl (hb hby at_113) rfl) ?_
        show Ends p e below _ T8 (mkF m 115 #[.val (.int i0), .val (.int i1), .val (.int i2), .val (.int i3), .val (.int i4), .val (.int n), .val (.int ia), .val (.int ib), .val (.int ic), .val (.int iq), .val (.ref b1), .val (.int (0 : Int32))] [(.int (0 : Int32)), (.int (own_get ((upd (upd (upd (fun _ => (0 : Int64)) (Na / 64) (((fun _ => (0 : Int64)) (Na / 64)) ||| own_bit ia)) (Nc / 64) (((upd (fun _ => (0 : Int64)) (Na / 64) (((fun _ => (0 : Int64)) (Na / 64)) ||| own_bit ia)) (Nc / 64)) &&& (own_bit ic ^^^ (-1 : Int64)))) (Nb / 64) (((upd (upd (fun _ => (0 : Int64)) (Na / 64) (((fun _ => (0 : Int64)) (Na / 64)) ||| own_bit ia)) (Nc / 64) (((upd (fun _ => (0 : Int64)) (Na / 64) (((fun _ => (0 : Int64)) (Na / 64)) ||| own_bit ia)) (Nc / 64)) &&& (own_bit ic ^^^ (-1 : Int64)))) (Nb / 64)) ||| own_bit ib)) (Nq / 64) &&& own_bit iq)))])
        refine Ends.icmp X8 hx (hb hby at_115) 122 (by decide) (by decide) (fun q => ?_) (fun q => ?_)
        · have c115 : ¬ ((own_get ((upd (upd (upd (fun _ => (0 : Int64)) (Na / 64) (((fun _ => (0 : Int64)) (Na / 64)) ||| own_bit ia)) (Nc / 64) (((upd (fun _ => (0 : Int64)) (Na / 64) (((fun _ => (0 : Int64)) (Na / 64)) ||| own_bit ia)) (Nc / 64)) &&& (own_bit ic ^^^ (-1 : Int64)))) (Nb / 64) (((upd (upd (fun _ => (0 : Int64)) (Na / 64) (((fun _ => (0 : Int64)) (Na / 64)) ||| own_bit ia)) (Nc / 64) (((upd (fun _ => (0 : Int64)) (Na / 64) (((fun _ => (0 : Int64)) (Na / 64)) ||| own_bit ia)) (Nc / 64)) &&& (own_bit ic ^^^ (-1 : Int64)))) (Nb / 64)) ||| own_bit ib)) (Nq / 64) &&& own_bit iq)) = (0 : Int32)) := own_ne.1 q
          exact absurd ((own_law hNa hNb hNc hNq _ rfl).trans (if_neg (fun z => z.elim c82 (fun y => y.2 c96)))) c115
        · have c115 : (own_get ((upd (upd (upd (fun _ => (0 : Int64)) (Na / 64) (((fun _ => (0 : Int64)) (Na / 64)) ||| own_bit ia)) (Nc / 64) (((upd (fun _ => (0 : Int64)) (Na / 64) (((fun _ => (0 : Int64)) (Na / 64)) ||| own_bit ia)) (Nc / 64)) &&& (own_bit ic ^^^ (-1 : Int64)))) (Nb / 64) (((upd (upd (fun _ => (0 : Int64)) (Na / 64) (((fun _ => (0 : Int64)) (Na / 64)) ||| own_bit ia)) (Nc / 64) (((upd (fun _ => (0 : Int64)) (Na / 64) (((fun _ => (0 : Int64)) (Na / 64)) ||| own_bit ia)) (Nc / 64)) &&& (own_bit ic ^^^ (-1 : Int64)))) (Nb / 64)) ||| own_bit ib)) (Nq / 64) &&& own_bit iq)) = (0 : Int32) := own_ne.2 q
          show Ends p e below _ T8 (mkF m 118 #[.val (.int i0), .val (.int i1), .val (.int i2), .val (.int i3), .val (.int i4), .val (.int n), .val (.int ia), .val (.int ib), .val (.int ic), .val (.int iq), .val (.ref b1), .val (.int (0 : Int32))] [])
          refine Ends.by (fun _ => XS.iconst X8.here hx rfl (hb hby at_118)) ?_
          show Ends p e below _ T8 (mkF m 119 #[.val (.int i0), .val (.int i1), .val (.int i2), .val (.int i3), .val (.int i4), .val (.int n), .val (.int ia), .val (.int ib), .val (.int ic), .val (.int iq), .val (.ref b1), .val (.int (0 : Int32))] [(.int (1 : Int32))])
          refine Ends.by (fun _ => XS.goto X8.here hx rfl (pc0 := 119) (pc' := 123) rfl (hb hby at_119) (by decide) (by decide)) ?_
          show Ends p e below _ T8 (mkF m 123 #[.val (.int i0), .val (.int i1), .val (.int i2), .val (.int i3), .val (.int i4), .val (.int n), .val (.int ia), .val (.int ib), .val (.int ic), .val (.int iq), .val (.ref b1), .val (.int (0 : Int32))] [(.int (1 : Int32))])
          exact Ends.retZ X8 hx hlk hret (hb hby at_123) (by first | decide | (simp; done)) (by decide) (by decide) (⟨rfl, N5⟩)
      · have c96 : ¬ (iq = ic) := own_eq.2 q
        show Ends p e below _ T5 (mkF m 99 #[.val (.int i0), .val (.int i1), .val (.int i2), .val (.int i3), .val (.int i4), .val (.int n), .val (.int ia), .val (.int ib), .val (.int ic), .val (.int iq), .val (.ref b1), .unset] [])
        refine Ends.by (fun _ => XS.iconst X5.here hx rfl (hb hby at_99)) ?_
        show Ends p e below _ T5 (mkF m 100 #[.val (.int i0), .val (.int i1), .val (.int i2), .val (.int i3), .val (.int i4), .val (.int n), .val (.int ia), .val (.int ib), .val (.int ic), .val (.int iq), .val (.ref b1), .unset] [(.int (1 : Int32))])
        refine Ends.by (fun _ => XS.goto X5.here hx rfl (pc0 := 100) (pc' := 104) rfl (hb hby at_100) (by decide) (by decide)) ?_
        show Ends p e below _ T5 (mkF m 104 #[.val (.int i0), .val (.int i1), .val (.int i2), .val (.int i3), .val (.int i4), .val (.int n), .val (.int ia), .val (.int ib), .val (.int ic), .val (.int iq), .val (.ref b1), .unset] [(.int (1 : Int32))])
        refine Ends.by (fun _ => XS.istore X5.here hx rfl (hb hby at_104) rfl (l' := #[.val (.int i0), .val (.int i1), .val (.int i2), .val (.int i3), .val (.int i4), .val (.int n), .val (.int ia), .val (.int ib), .val (.int ic), .val (.int iq), .val (.ref b1), .val (.int (1 : Int32))]) rfl) ?_
        show Ends p e below _ T5 (mkF m 106 #[.val (.int i0), .val (.int i1), .val (.int i2), .val (.int i3), .val (.int i4), .val (.int n), .val (.int ia), .val (.int ib), .val (.int ic), .val (.int iq), .val (.ref b1), .val (.int (1 : Int32))] [])
        refine Ends.by (fun _ => XS.aload X5.here hx rfl (hb hby at_106) rfl rfl) ?_
        show Ends p e below _ T5 (mkF m 108 #[.val (.int i0), .val (.int i1), .val (.int i2), .val (.int i3), .val (.int i4), .val (.int n), .val (.int ia), .val (.int ib), .val (.int ic), .val (.int iq), .val (.ref b1), .val (.int (1 : Int32))] [(.ref b1)])
        refine Ends.by (fun _ => XS.iload X5.here hx rfl (hb hby at_108) rfl) ?_
        show Ends p e below _ T5 (mkF m 110 #[.val (.int i0), .val (.int i1), .val (.int i2), .val (.int i3), .val (.int i4), .val (.int n), .val (.int ia), .val (.int ib), .val (.int ic), .val (.int iq), .val (.ref b1), .val (.int (1 : Int32))] [(.int iq), (.ref b1)])
        refine Ends.callV (a := b1) (argsL := [(.int iq)]) (rest := []) X5 hx hZ hown (hw _ (List.mem_of_getElem? (i := 24) rfl)) (hw _ (List.mem_of_getElem? (i := 25) rfl)) (hw _ (List.mem_of_getElem? (i := 26) rfl)) (hw _ (List.mem_of_getElem? (i := 27) rfl)) (hw _ (List.mem_of_getElem? (i := 3) rfl)) (hw _ (List.mem_of_getElem? (i := 28) rfl)) (by decide) (con_5 l Z a0 hw b1 iq ar k Nq (upd (upd (upd (fun _ => (0 : Int64)) (Na / 64) (((fun _ => (0 : Int64)) (Na / 64)) ||| own_bit ia)) (Nc / 64) (((upd (fun _ => (0 : Int64)) (Na / 64) (((fun _ => (0 : Int64)) (Na / 64)) ||| own_bit ia)) (Nc / 64)) &&& (own_bit ic ^^^ (-1 : Int64)))) (Nb / 64) (((upd (upd (fun _ => (0 : Int64)) (Na / 64) (((fun _ => (0 : Int64)) (Na / 64)) ||| own_bit ia)) (Nc / 64) (((upd (fun _ => (0 : Int64)) (Na / 64) (((fun _ => (0 : Int64)) (Na / 64)) ||| own_bit ia)) (Nc / 64)) &&& (own_bit ic ^^^ (-1 : Int64)))) (Nb / 64)) ||| own_bit ib)) T5.heap n0 Z5 E_b1_5 F_b1_words_5 A5q hNq (hk.2.2 _ lq)) rfl E_b1_5 (by rw [hml]; rfl) (hb hby at_110) (lenOf pd_5 rfl) 0 (Nat.le_of_eq rfl) (by decide) (by decide) (by decide) (by decide) ?_
        intro v T9 L9 X9 hQ
        obtain ⟨rfl, e9, rfl⟩ := hQ
        rw [List.append_nil] at X9
        show Ends p e below _ T9 (mkF m 113 #[.val (.int i0), .val (.int i1), .val (.int i2), .val (.int i3), .val (.int i4), .val (.int n), .val (.int ia), .val (.int ib), .val (.int ic), .val (.int iq), .val (.ref b1), .val (.int (1 : Int32))] [(.int (own_get ((upd (upd (upd (fun _ => (0 : Int64)) (Na / 64) (((fun _ => (0 : Int64)) (Na / 64)) ||| own_bit ia)) (Nc / 64) (((upd (fun _ => (0 : Int64)) (Na / 64) (((fun _ => (0 : Int64)) (Na / 64)) ||| own_bit ia)) (Nc / 64)) &&& (own_bit ic ^^^ (-1 : Int64)))) (Nb / 64) (((upd (upd (fun _ => (0 : Int64)) (Na / 64) (((fun _ => (0 : Int64)) (Na / 64)) ||| own_bit ia)) (Nc / 64) (((upd (fun _ => (0 : Int64)) (Na / 64) (((fun _ => (0 : Int64)) (Na / 64)) ||| own_bit ia)) (Nc / 64)) &&& (own_bit ic ^^^ (-1 : Int64)))) (Nb / 64)) ||| own_bit ib)) (Nq / 64) &&& own_bit iq)))])
        refine Ends.by (fun _ => XS.iload X9.here hx rfl (hb hby at_113) rfl) ?_
        show Ends p e below _ T9 (mkF m 115 #[.val (.int i0), .val (.int i1), .val (.int i2), .val (.int i3), .val (.int i4), .val (.int n), .val (.int ia), .val (.int ib), .val (.int ic), .val (.int iq), .val (.ref b1), .val (.int (1 : Int32))] [(.int (1 : Int32)), (.int (own_get ((upd (upd (upd (fun _ => (0 : Int64)) (Na / 64) (((fun _ => (0 : Int64)) (Na / 64)) ||| own_bit ia)) (Nc / 64) (((upd (fun _ => (0 : Int64)) (Na / 64) (((fun _ => (0 : Int64)) (Na / 64)) ||| own_bit ia)) (Nc / 64)) &&& (own_bit ic ^^^ (-1 : Int64)))) (Nb / 64) (((upd (upd (fun _ => (0 : Int64)) (Na / 64) (((fun _ => (0 : Int64)) (Na / 64)) ||| own_bit ia)) (Nc / 64) (((upd (fun _ => (0 : Int64)) (Na / 64) (((fun _ => (0 : Int64)) (Na / 64)) ||| own_bit ia)) (Nc / 64)) &&& (own_bit ic ^^^ (-1 : Int64)))) (Nb / 64)) ||| own_bit ib)) (Nq / 64) &&& own_bit iq)))])
        refine Ends.icmp X9 hx (hb hby at_115) 122 (by decide) (by decide) (fun q => ?_) (fun q => ?_)
        · have c115 : ¬ ((own_get ((upd (upd (upd (fun _ => (0 : Int64)) (Na / 64) (((fun _ => (0 : Int64)) (Na / 64)) ||| own_bit ia)) (Nc / 64) (((upd (fun _ => (0 : Int64)) (Na / 64) (((fun _ => (0 : Int64)) (Na / 64)) ||| own_bit ia)) (Nc / 64)) &&& (own_bit ic ^^^ (-1 : Int64)))) (Nb / 64) (((upd (upd (fun _ => (0 : Int64)) (Na / 64) (((fun _ => (0 : Int64)) (Na / 64)) ||| own_bit ia)) (Nc / 64) (((upd (fun _ => (0 : Int64)) (Na / 64) (((fun _ => (0 : Int64)) (Na / 64)) ||| own_bit ia)) (Nc / 64)) &&& (own_bit ic ^^^ (-1 : Int64)))) (Nb / 64)) ||| own_bit ib)) (Nq / 64) &&& own_bit iq)) = (1 : Int32)) := own_ne.1 q
          exact absurd ((own_law hNa hNb hNc hNq _ rfl).trans (if_pos (Or.inr ⟨c89, c96⟩))) c115
        · have c115 : (own_get ((upd (upd (upd (fun _ => (0 : Int64)) (Na / 64) (((fun _ => (0 : Int64)) (Na / 64)) ||| own_bit ia)) (Nc / 64) (((upd (fun _ => (0 : Int64)) (Na / 64) (((fun _ => (0 : Int64)) (Na / 64)) ||| own_bit ia)) (Nc / 64)) &&& (own_bit ic ^^^ (-1 : Int64)))) (Nb / 64) (((upd (upd (fun _ => (0 : Int64)) (Na / 64) (((fun _ => (0 : Int64)) (Na / 64)) ||| own_bit ia)) (Nc / 64) (((upd (fun _ => (0 : Int64)) (Na / 64) (((fun _ => (0 : Int64)) (Na / 64)) ||| own_bit ia)) (Nc / 64)) &&& (own_bit ic ^^^ (-1 : Int64)))) (Nb / 64)) ||| own_bit ib)) (Nq / 64) &&& own_bit iq)) = (1 : Int32) := own_ne.2 q
          show Ends p e below _ T9 (mkF m 118 #[.val (.int i0), .val (.int i1), .val (.int i2), .val (.int i3), .val (.int i4), .val (.int n), .val (.int ia), .val (.int ib), .val (.int ic), .val (.int iq), .val (.ref b1), .val (.int (1 : Int32))] [])
          refine Ends.by (fun _ => XS.iconst X9.here hx rfl (hb hby at_118)) ?_
          show Ends p e below _ T9 (mkF m 119 #[.val (.int i0), .val (.int i1), .val (.int i2), .val (.int i3), .val (.int i4), .val (.int n), .val (.int ia), .val (.int ib), .val (.int ic), .val (.int iq), .val (.ref b1), .val (.int (1 : Int32))] [(.int (1 : Int32))])
          refine Ends.by (fun _ => XS.goto X9.here hx rfl (pc0 := 119) (pc' := 123) rfl (hb hby at_119) (by decide) (by decide)) ?_
          show Ends p e below _ T9 (mkF m 123 #[.val (.int i0), .val (.int i1), .val (.int i2), .val (.int i3), .val (.int i4), .val (.int n), .val (.int ia), .val (.int ib), .val (.int ic), .val (.int iq), .val (.ref b1), .val (.int (1 : Int32))] [(.int (1 : Int32))])
          exact Ends.retZ X9 hx hlk hret (hb hby at_123) (by first | decide | (simp; done)) (by decide) (by decide) (⟨rfl, N5⟩)
set_option maxRecDepth 65536 in
set_option maxHeartbeats 40000000 in
theorem comes_1 {Post : Tables → Env → Array Value → State → Outcome → State → Prop} (hpost : ∀ tb e args s v u, (limb_1_1.after args s (.returned v) u = true ∧ limb_1_2.after args s (.returned v) u = true) → FrameEnd s (.returned v) u (Jvm.fieldLocs frame_1_writes args s ++ Jvm.arrayLocs frame_1_arrays args s ++ Jvm.staticLocs frame_1_statics s) 16 128 → Post tb e args s (.returned v) u) :
    ArmFor flags0 classFile x code maxLocals ret World_1 tables_1 room_1 Calls_1 rest_1 Pre_1 Post := by
  intro l hfl _ _ p e ha hc hk s m args below hf hA hF happ hP
  obtain ⟨hcalls, hrest, hpre⟩ := hP
  obtain ⟨-, -, -, hnamed, -, -, -, hat⟩ := (Spec.applies_iff hf).mp happ
  obtain ⟨hg, hn⟩ := and_e (Cond.before_iff.mp (show (Jvm.Cond.and given_1 narrow_1).before args s = true from hpre))
  obtain ⟨hcount, g0⟩ := and_e hg
  obtain ⟨k0, g1⟩ := and_e g0
  obtain ⟨k1, g2⟩ := and_e g1
  obtain ⟨k2, g3⟩ := and_e g2
  obtain ⟨k3, g4⟩ := and_e g3
  obtain ⟨w0, w1, w2, w3, w4, rfl⟩ : ∃ w0 w1 w2 w3 w4 : Value, args = #[w0, w1, w2, w3, w4] := by
    have hs : args.size = 5 := by simpa [Cond.value, given_1] using hcount
    obtain ⟨L⟩ := args
    match L, hs with
    | [w0, w1, w2, w3, w4], _ => exact ⟨w0, w1, w2, w3, w4, rfl⟩
  have hw := fun d (hd : d ∈ tables_1) => atoms_spec (ws := Jvm.Cond.code x code maxLocals ret :: tables_1) hat d (List.mem_cons_of_mem _ hd)
  obtain ⟨i0, ei0⟩ := is_v k0
  obtain rfl : w0 = (.int i0) := Option.some.inj ei0
  obtain ⟨i1, ei1⟩ := is_v k1
  obtain rfl : w1 = (.int i1) := Option.some.inj ei1
  obtain ⟨i2, ei2⟩ := is_v k2
  obtain rfl : w2 = (.int i2) := Option.some.inj ei2
  obtain ⟨i3, ei3⟩ := is_v k3
  obtain rfl : w3 = (.int i3) := Option.some.inj ei3
  obtain ⟨i4, ei4⟩ := is_v g4
  obtain rfl : w4 = (.int i4) := Option.some.inj ei4
  obtain ⟨n, o, h1, h2, h3, _, L, rfl, ⟨rfl, N⟩, hq⟩ := con_0 l s _ hw i0 i1 i2 i3 i4 s.heap s.heap.size (Nat.le_refl _) tables_1 p e ha hc hk s m _ below hf ((Spec.applies_iff_loose hf).mp happ).1 ⟨rfl, State.Warmed39.refl s, rfl⟩ trivial
  refine ⟨n, _, h1, h2, h3, hpost _ _ _ _ _ _ ⟨Cond.after_iff.mpr rfl, Cond.after_iff.mpr (eq_i res_at (Term.int_eval (1)) rfl)⟩ ⟨hq.1, hq.2.1, (hq.2.2.sift fun y hy => Or.inr (N y hy)).mono (by decide) (by decide)⟩⟩
theorem main_1_1 : Claimed_1_1 := comes_1 fun _ _ _ _ _ _ h hF => ⟨h.1, hF⟩
theorem main_1_2 : Claimed_1_2 := comes_1 fun _ _ _ _ _ _ h hF => ⟨h.2, hF⟩
end Jvm.Pilot.@@N@@
namespace Jvm.Pilot.@@N@@
open Jvm Jvm.ClassFile Sem Op Lib Jvm.Free Jvm.Stand Jvm.Pilot.@@N@@.Jvm.D
/-! MADE BY PROGRAM (witnessworld.py) out of the Statement's table words and the real class files: 11 classes; the members and pool entries that the words name. The judged class is class 1, her method 1. -/
namespace start1
open Jvm.ClassFile
def u (s : String) : CpInfo := .utf8 (stringToUtf16 s)
/-- a pool by its gaps: so many unusable entries, then the entry; so many at the end -/
def gap : Nat → List CpInfo → List CpInfo
  | 0, r => r
  | n + 1, r => .unusable :: gap n r
def poolList (es : List (Nat × CpInfo)) (last : Nat) : List CpInfo := es.foldr (fun e r => gap e.1 (e.2 :: r)) (gap last [])
def pool (es : List (Nat × CpInfo)) (last : Nat) : Array CpInfo := ⟨poolList es last⟩
def fileOf (pool : Array CpInfo) (this : Nat) (attrs : Array Attribute := #[]) (ms : Array MethodInfo := #[]) (fl : Nat := 33) (sup : Nat := 0) (ifs : Array Nat := #[]) (fds : Array FieldInfo := #[]) : ClassFile where
  minorVersion := 0
  majorVersion := 65
  constantPool := pool
  accessFlags := fl
  thisClass := this
  superClass := sup
  interfaces := ifs
  fields := fds
  methods := ms
  attributes := attrs
def plain (name : String) (sup : Option ClassId) : Class where
  name := name
  kind := .ordinary
  loader := none
  accessFlags := 33
  super := sup
  interfaces := #[]
  cf := none
  fields := #[]
  methods := #[]
  instanceTypes := #[]
  staticTypes := #[]
  resolved := #[]
  callSites := []
  init := .initialized
  statics := none
  mirror := none

def pool0 : Array CpInfo := pool [(5, u "<init>"), (0, u "()V"), (1, .class_ 10), (1, u "java/lang/Object")] 113

def k0c0 : Code := { maxStack := 0, maxLocals := 1, code := object_method_1_code, exceptionTable := #[], attributes := #[] }
def k0m0 : Method := { name := "<init>", desc := "()V", sig := { parameters := [], returnType := none }, accessFlags := 1, code := some k0c0 }
/-- java/lang/Object -/
def k0 : Class := { plain "java/lang/Object" none with
  accessFlags := 33
  interfaces := #[]
  cf := some (fileOf pool0 8 #[] #[{ accessFlags := 1, nameIndex := 5, descriptorIndex := 6, attributes := #[] }] 33 0 #[] #[])
  fields := #[]
  methods := #[k0m0]
  instanceTypes := #[]
  staticTypes := #[]
  resolved := Array.replicate 124 none
  statics := none }

def pool1 : Array CpInfo := pool [(2, .class_ 4), (1, u "java/lang/Object"), (0, u "<init>"), (0, u "()V"), (0, .integer 2147483647), (0, .class_ 9), (0, u "com/example/tiefast/tiefast/Bits"), (0, .methodref 8 11), (0, .nameAndType 5 12), (0, u "(I)V"), (0, .methodref 8 14), (0, .nameAndType 15 12), (0, u "set"), (0, .methodref 8 17), (0, .nameAndType 18 12), (0, u "clear"), (0, .methodref 8 20), (0, .nameAndType 21 22), (0, u "get"), (0, u "(I)Z"), (0, .class_ 24), (0, u "com/example/tiefast/tiefast/BitsGetPinLaw"), (2, u "law"), (0, u "(IIIII)Z")] 3

def k1m0 : Method := { name := "<init>", desc := "()V", sig := { parameters := [], returnType := none }, accessFlags := 1, code := none }
def k1c1 : Code := { maxStack := 3, maxLocals := 12, code := code, exceptionTable := #[], attributes := #[] }
def k1m1 : Method := { name := "law", desc := "(IIIII)Z", sig := { parameters := [.int, .int, .int, .int, .int], returnType := some .boolean }, accessFlags := 9, code := some k1c1 }
/-- com/example/tiefast/tiefast/BitsGetPinLaw -/
def k1 : Class := { plain "com/example/tiefast/tiefast/BitsGetPinLaw" (some 0) with
  accessFlags := 49
  interfaces := #[]
  cf := some (fileOf pool1 23 #[] #[{ accessFlags := 1, nameIndex := 5, descriptorIndex := 6, attributes := #[] }, { accessFlags := 9, nameIndex := 27, descriptorIndex := 28, attributes := #[] }] 49 2 #[] #[])
  fields := #[]
  methods := #[k1m0, k1m1]
  instanceTypes := #[]
  staticTypes := #[]
  resolved := Array.replicate 32 none
  statics := none }

def pool2 : Array CpInfo := pool [(1, .methodref 2 3), (0, .class_ 4), (0, .nameAndType 5 6), (0, u "java/lang/Object"), (0, u "<init>"), (0, u "()V"), (0, .fieldref 8 9), (0, .class_ 10), (0, .nameAndType 11 12), (0, u "com/example/tiefast/tiefast/Bits"), (0, u "words"), (0, u "[J"), (0, .long 18446744073709551615), (22, u "(I)V"), (2, u "set"), (0, u "clear"), (0, u "get"), (0, u "(I)Z")] 5

def k2c0 : Code := { maxStack := 3, maxLocals := 2, code := prog_7_method_1_code, exceptionTable := #[], attributes := #[] }
def k2m0 : Method := { name := "<init>", desc := "(I)V", sig := { parameters := [.int], returnType := none }, accessFlags := 0, code := some k2c0 }
def k2c1 : Code := { maxStack := 7, maxLocals := 2, code := prog_7_method_2_code, exceptionTable := #[], attributes := #[] }
def k2m1 : Method := { name := "set", desc := "(I)V", sig := { parameters := [.int], returnType := none }, accessFlags := 0, code := some k2c1 }
def k2c2 : Code := { maxStack := 8, maxLocals := 2, code := prog_7_method_3_code, exceptionTable := #[], attributes := #[] }
def k2m2 : Method := { name := "clear", desc := "(I)V", sig := { parameters := [.int], returnType := none }, accessFlags := 0, code := some k2c2 }
def k2c3 : Code := { maxStack := 5, maxLocals := 2, code := prog_7_method_4_code, exceptionTable := #[], attributes := #[] }
def k2m3 : Method := { name := "get", desc := "(I)Z", sig := { parameters := [.int], returnType := some .boolean }, accessFlags := 0, code := some k2c3 }
/-- com/example/tiefast/tiefast/Bits -/
def k2 : Class := { plain "com/example/tiefast/tiefast/Bits" (some 0) with
  accessFlags := 48
  interfaces := #[]
  cf := some (fileOf pool2 8 #[] #[{ accessFlags := 0, nameIndex := 5, descriptorIndex := 36, attributes := #[] }, { accessFlags := 0, nameIndex := 39, descriptorIndex := 36, attributes := #[] }, { accessFlags := 0, nameIndex := 40, descriptorIndex := 36, attributes := #[] }, { accessFlags := 0, nameIndex := 41, descriptorIndex := 42, attributes := #[] }] 48 2 #[] #[{ accessFlags := 18, nameIndex := 11, descriptorIndex := 12, attributes := #[] }])
  fields := #[{ name := "words", type := (.array .long), accessFlags := 18, slot := 0, constantValue := 0 }]
  methods := #[k2m0, k2m1, k2m2, k2m3]
  instanceTypes := #[(.array .long)]
  staticTypes := #[]
  resolved := Array.replicate 48 none
  statics := none }

def pool3 : Array CpInfo := pool [(1, u "java/lang/Cloneable"), (0, .class_ 1), (0, u "java/lang/Object"), (0, .class_ 3)] 3

/-- java/lang/Cloneable -/
def k3 : Class := { plain "java/lang/Cloneable" (some 0) with
  accessFlags := 1537
  interfaces := #[]
  cf := some (fileOf pool3 2 #[] #[] 1537 4 #[] #[])
  fields := #[]
  methods := #[]
  instanceTypes := #[]
  staticTypes := #[]
  resolved := Array.replicate 8 none
  statics := none }

def pool4 : Array CpInfo := pool [(1, u "java/io/Serializable"), (0, .class_ 1), (0, u "java/lang/Object"), (0, .class_ 3)] 3

/-- java/io/Serializable -/
def k4 : Class := { plain "java/io/Serializable" (some 0) with
  accessFlags := 1537
  interfaces := #[]
  cf := some (fileOf pool4 2 #[] #[] 1537 4 #[] #[])
  fields := #[]
  methods := #[]
  instanceTypes := #[]
  staticTypes := #[]
  resolved := Array.replicate 8 none
  statics := none }

/-- the primitive byte -/
def k5 : Class := { plain "byte" none with kind := .primitive 'B', accessFlags := 0x411 }
/-- [B -/
def k6 : Class := { plain "[B" (some 0) with kind := .array 5 .byte, interfaces := #[3, 4], accessFlags := 1041 }

/-- the primitive int -/
def k7 : Class := { plain "int" none with kind := .primitive 'I', accessFlags := 0x411 }
/-- [I -/
def k8 : Class := { plain "[I" (some 0) with kind := .array 7 .int, interfaces := #[3, 4], accessFlags := 1041 }

/-- the primitive long -/
def k9 : Class := { plain "long" none with kind := .primitive 'J', accessFlags := 0x411 }
/-- [J -/
def k10 : Class := { plain "[J" (some 0) with kind := .array 9 .long, interfaces := #[3, 4], accessFlags := 1041 }

def heap : Heap := #[]
def classes : Array Class := #[k0, k1, k2, k3, k4, k5, k6, k7, k8, k9, k10]
def interned : List (Array UInt16 × Addr) := []
def slotsUsed : Nat := 0
def theMethod : MethodId := ⟨1, 1⟩
def args0 : Array Value := #[.int 5, .int 7, .int 7, .int 7, .int 7]
def aboutOver (below : List Frame) : State where
  vm := { classes := classes, interned := interned.toArray }
  heap := heap
  slotsUsed := slotsUsed
  threads := #[{ frames := .invoking theMethod args0 :: below }]
def below0 : List Frame := [.native { method := ⟨0, 0⟩, args := #[] }]
def about1 : State := aboutOver below0
def p0 : Program := .bare "" "" ""
def e0 : Env := launch0.env 0 0 0
theorem w_frames : about1.frames = Frame.invoking theMethod args0 :: below0 := rfl
set_option maxRecDepth 65536 in
theorem w_args : argsFit about1.vm theMethod args0 = true := by decide +kernel
set_option maxRecDepth 65536 in
theorem w_heap : heapFits about1 = true := by decide +kernel
set_option maxRecDepth 65536 in
theorem w_runnable : about1.curStatus? = some .runnable := by decide +kernel
set_option maxRecDepth 65536 in
theorem w_alone : about1.alone = true := by decide +kernel
set_option maxRecDepth 65536 in
theorem w_named : about1.methodNamed? x = some theMethod := by decide +kernel
set_option maxRecDepth 65536 in
theorem w_hears : about1.hears theMethod below0 = true := by decide +kernel
set_option maxRecDepth 65536 in
theorem w_ripe : about1.ripe theMethod args0 below0 = true := by decide +kernel
theorem w_running : about1.status = .running := rfl
set_option maxRecDepth 65536 in
theorem w_room : about1.hasRoom e0.platform room_1 = true :=
  launch0.hasRoom_least _ room_1 (by decide +kernel) (by decide +kernel) (by decide +kernel) (by decide +kernel) (by decide +kernel) (by decide +kernel)
theorem allAtoms_all (ts : List Jvm.Cond) (a : Array Jvm.Value) (st : Jvm.State) : (allAtoms ts).before a st = ts.all (fun c => c.before a st) := by
  induction ts with
  | nil => rfl
  | cons c t ih =>
    show (Jvm.Cond.and c (allAtoms t)).before a st = _
    rw [Jvm.Cond.before_and, ih, List.all_cons]
def words1 : List Jvm.Cond := Jvm.Cond.code x code maxLocals ret :: tables_1
/-- a 'code' word, met by the world's own term for the bytes: nothing is compared byte by byte -/
theorem code_word {y : MethodName} {bytes : ByteArray} {mx : Nat} {rt : Option FieldType} {a : Array Value} {s : State} {m : MethodId} {meth : Method} {c : Code} (h1 : s.methodNamed? y = some m) (h2 : s.vm.method? m = some meth) (h3 : meth.code = some c) (h4 : c.code = bytes)
    (h5 : (c.maxLocals == mx && c.exceptionTable.isEmpty && decide (c.maxStack ≤ mostOperands) && decide (meth.sig.returnType = rt) && !meth.locks && decide (parseMethodDescriptor y.desc = some meth.sig)) = true) : (Jvm.Cond.code y bytes mx rt).before a s = true := by
  simp only [Bool.and_eq_true, beq_iff_eq, Bool.not_eq_true', decide_eq_true_eq] at h5
  obtain ⟨⟨⟨⟨⟨g1, g2⟩, g3⟩, g4⟩, g5⟩, g6⟩ := h5
  simp [Cond.before, Cond.holds, Cond.value, h1, h2, h3, h4, g1, g2, g3, g4, g5, g6]
def isCode : Jvm.Cond → Bool
  | .code _ _ _ _ => true
  | _ => false
theorem all_split {L : List Jvm.Cond} {P : Jvm.Cond → Bool} (h1 : L.all (fun c => isCode c || P c) = true) (h2 : ∀ c ∈ L.filter isCode, P c = true) : L.all P = true := by
  refine List.all_eq_true.mpr fun c hc => ?_
  have h := List.all_eq_true.mp h1 c hc
  rcases Bool.eq_false_or_eq_true (isCode c) with hi | hi
  · exact h2 c (List.mem_filter.mpr ⟨hc, hi⟩)
  · simpa [hi] using h
set_option maxRecDepth 65536 in
theorem w_c0 : (Jvm.Cond.code x code maxLocals ret).before args0 about1 = true := code_word (m := ⟨1, 1⟩) (meth := k1m1) (c := k1c1) (by decide +kernel) rfl rfl rfl (by decide +kernel)
set_option maxRecDepth 65536 in
theorem w_c1 : (Jvm.Cond.code ({ cls := "com/example/tiefast/tiefast/Bits", name := "<init>", desc := "(I)V" } : Jvm.MethodName) prog_7_method_1_code (2 : Nat) (Option.none : Option Jvm.ClassFile.FieldType)).before args0 about1 = true := code_word (m := ⟨2, 0⟩) (meth := k2m0) (c := k2c0) (by decide +kernel) rfl rfl rfl (by decide +kernel)
set_option maxRecDepth 65536 in
theorem w_c2 : (Jvm.Cond.code ({ cls := "java/lang/Object", name := "<init>", desc := "()V" } : Jvm.MethodName) object_method_1_code (1 : Nat) (Option.none : Option Jvm.ClassFile.FieldType)).before args0 about1 = true := code_word (m := ⟨0, 0⟩) (meth := k0m0) (c := k0c0) (by decide +kernel) rfl rfl rfl (by decide +kernel)
set_option maxRecDepth 65536 in
theorem w_c3 : (Jvm.Cond.code ({ cls := "com/example/tiefast/tiefast/Bits", name := "set", desc := "(I)V" } : Jvm.MethodName) prog_7_method_2_code (2 : Nat) (Option.none : Option Jvm.ClassFile.FieldType)).before args0 about1 = true := code_word (m := ⟨2, 1⟩) (meth := k2m1) (c := k2c1) (by decide +kernel) rfl rfl rfl (by decide +kernel)
set_option maxRecDepth 65536 in
theorem w_c4 : (Jvm.Cond.code ({ cls := "com/example/tiefast/tiefast/Bits", name := "clear", desc := "(I)V" } : Jvm.MethodName) prog_7_method_3_code (2 : Nat) (Option.none : Option Jvm.ClassFile.FieldType)).before args0 about1 = true := code_word (m := ⟨2, 2⟩) (meth := k2m2) (c := k2c2) (by decide +kernel) rfl rfl rfl (by decide +kernel)
set_option maxRecDepth 65536 in
theorem w_c5 : (Jvm.Cond.code ({ cls := "com/example/tiefast/tiefast/Bits", name := "get", desc := "(I)Z" } : Jvm.MethodName) prog_7_method_4_code (2 : Nat) (Option.some Jvm.ClassFile.FieldType.boolean)).before args0 about1 = true := code_word (m := ⟨2, 3⟩) (meth := k2m3) (c := k2c3) (by decide +kernel) rfl rfl rfl (by decide +kernel)
def codes1 : List Jvm.Cond := [Jvm.Cond.code x code maxLocals ret, Jvm.Cond.code ({ cls := "com/example/tiefast/tiefast/Bits", name := "<init>", desc := "(I)V" } : Jvm.MethodName) prog_7_method_1_code (2 : Nat) (Option.none : Option Jvm.ClassFile.FieldType), Jvm.Cond.code ({ cls := "java/lang/Object", name := "<init>", desc := "()V" } : Jvm.MethodName) object_method_1_code (1 : Nat) (Option.none : Option Jvm.ClassFile.FieldType), Jvm.Cond.code ({ cls := "com/example/tiefast/tiefast/Bits", name := "set", desc := "(I)V" } : Jvm.MethodName) prog_7_method_2_code (2 : Nat) (Option.none : Option Jvm.ClassFile.FieldType), Jvm.Cond.code ({ cls := "com/example/tiefast/tiefast/Bits", name := "clear", desc := "(I)V" } : Jvm.MethodName) prog_7_method_3_code (2 : Nat) (Option.none : Option Jvm.ClassFile.FieldType), Jvm.Cond.code ({ cls := "com/example/tiefast/tiefast/Bits", name := "get", desc := "(I)Z" } : Jvm.MethodName) prog_7_method_4_code (2 : Nat) (Option.some Jvm.ClassFile.FieldType.boolean)]
set_option maxRecDepth 65536 in
theorem codes_eq : words1.filter isCode = codes1 := rfl
theorem w_codes : ∀ c ∈ words1.filter isCode, c.before args0 about1 = true := by
  rw [codes_eq]
  intro c hc
  simp only [codes1, List.mem_cons, List.not_mem_nil, or_false] at hc
  rcases hc with rfl | rfl | rfl | rfl | rfl | rfl
  · exact w_c0
  · exact w_c1
  · exact w_c2
  · exact w_c3
  · exact w_c4
  · exact w_c5
set_option maxRecDepth 65536 in
theorem w_t1 : (words1.take 24).all (fun c => isCode c || c.before args0 about1) = true := by decide +kernel
set_option maxRecDepth 65536 in
theorem w_t2 : (words1.drop 24).all (fun c => isCode c || c.before args0 about1) = true := by decide +kernel
theorem w_tables : (allAtoms (Jvm.Cond.code x code maxLocals ret :: tables_1)).before args0 about1 = true := by
  rw [allAtoms_all]
  show words1.all (fun c => c.before args0 about1) = true
  refine all_split ?_ w_codes
  rw [← List.take_append_drop 24 words1, List.all_append, w_t1, w_t2]
  rfl
set_option maxRecDepth 65536 in
theorem w_case : (Jvm.Cond.and given_1 narrow_1).before args0 about1 = true := by decide +kernel
theorem w_applies : (headSpec (Jvm.Cond.code x code maxLocals ret :: tables_1) room_1).applies x e0.platform about1 = true :=
  (Spec.applies_iff w_frames).mpr ⟨w_running, w_runnable, w_alone, w_named, w_hears, w_ripe, w_room, w_tables⟩
theorem atStart : AtStart classFile x code maxLocals ret World_1 tables_1 room_1 Calls_1 rest_1 Pre_1 launch0 p0 e0 about1 theMethod args0 below0 :=
  ⟨lists_1, trivial, launch0.admits_env _ _ _, launch0.least_env, fairChoices_fair.cas, fairChoices_fair.clock, w_frames, w_args, w_heap, w_applies, trivial, trivial, w_case⟩
end start1
theorem witness_1 : WitnessClaimed_1 := ⟨start1.p0, start1.e0, start1.about1, start1.theMethod, start1.args0, start1.below0, start1.atStart⟩
end Jvm.Pilot.@@N@@
