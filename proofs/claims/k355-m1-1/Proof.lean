import JvmDerived
import JvmDerived.Pilot.@@N@@Statement
import JvmDerived.Pilot.@@N@@Code
set_option linter.unusedVariables false
set_option linter.unusedSimpArgs false
namespace Jvm.OwnWalk
open Sem ClassFile Op Lib Jvm.Stand Jvm.Free Jvm.LawKit Jvm.RoadKit
/-- from t the run comes to an end of which P holds -/
def Win (tb : Tables) (e : Env) (below : List Frame) (P : State → Outcome → Prop) (t : State) : Prop :=
  ∃ s₂ o, Steps tb e below t s₂ ∧ s₂.status = .running ∧ Ended s₂ below o ∧ P s₂ o
theorem Win.go {tb : Tables} {e : Env} {below : List Frame} {P : State → Outcome → Prop} {t t' : State} (st : ∀ z, Steps tb e below t' z → Steps tb e below t z) (w : Win tb e below P t') : Win tb e below P t := by
  obtain ⟨s2, o, h, r⟩ := w; exact ⟨s2, o, st _ h, r⟩
theorem Win.come {tb : Tables} {e : Env} {below : List Frame} {P : State → Outcome → Prop} {t t' : State} (st : Steps tb e below t t') (w : Win tb e below P t') : Win tb e below P t := by
  obtain ⟨s2, o, h, r⟩ := w; exact ⟨s2, o, st.trans h, r⟩
/-- the body has returned v with the heap h, L written -/
def PostQ (s : State) (Q : Option Value → Heap → List Loc → Prop) (C S : Nat) (u : State) (o : Outcome) : Prop := ∃ v L, o = .returned v ∧ Q v u.heap L ∧ FrameEnd s o u L C S
section Ret
variable {p : Program} {l : Launch} {e : Env} {R : Room} {s : State} {m : MethodId} {args : Array Value} {below : List Frame} {meth : Method} {c : Code} {T : State} {locs : List Loc} {cells slots : Nat} {h : Heap} {Q : Option Value → Heap → List Loc → Prop} {C S : Nat}
theorem retI' (X : Stand p l e R s m args below meth c T locs cells slots) (hx : p.tables.exec = Jvm.exec) {pc : Nat} {Ls : Array Slot} {z : Int32} {rest : List Value} (hret : meth.sig.returnType = some .int) (hd : decode c.code pc = .ok (.ireturn, 1)) {fs : List Frame}
    (hl : ∀ (f : JFrame) (acts : List Action), f.method = m → f.locked = none → f.entered = [] → (doReturn e (T.setTop f) acts (some (.int z))).1 = T.setFrames fs) : Steps p.tables e below (T.setTop (mkF m pc Ls (.int z :: rest))) (T.setFrames fs) := by
  have hm' : T.vm.method? m = some meth := X.method'
  have hn : narrow .int (.int z) = .int z := rfl
  show Steps p.tables e below (T.setTop { method := m, pc := pc, locals := Ls, stack := _ :: rest, locked := none }) _
  jvm_step X.here [X.here.top, hx, hd, hm', hret, hn]
  first | (intro acts; rw [hl _ acts rfl rfl rfl]) | rw [hl _ _ rfl rfl rfl]
  exact Steps.refl _
theorem retA' (X : Stand p l e R s m args below meth c T locs cells slots) (hx : p.tables.exec = Jvm.exec) {pc : Nat} {Ls : Array Slot} {w : Value} {t : FieldType} (hret : meth.sig.returnType = some t) (ht : t.isReference = true) (hv : w.isRef = true) (hd : decode c.code pc = .ok (.areturn, 1)) {fs : List Frame}
    (hl : ∀ (f : JFrame) (acts : List Action), f.method = m → f.locked = none → f.entered = [] → (doReturn e (T.setTop f) acts (some w)).1 = T.setFrames fs) : Steps p.tables e below (T.setTop (mkF m pc Ls [w])) (T.setFrames fs) := by
  have hm' : T.vm.method? m = some meth := X.method'
  show Steps p.tables e below (T.setTop { method := m, pc := pc, locals := Ls, stack := [w], locked := none }) _
  jvm_step X.here [X.here.top, hx, hd, hm', hret, hv, ht]
  first | (intro acts; rw [hl _ acts rfl rfl rfl]) | rw [hl _ _ rfl rfl rfl]
  exact Steps.refl _
theorem winI (X : Stand p l e R s m args below meth c T locs cells slots) (hx : p.tables.exec = Jvm.exec) (hlk : meth.locks = false) (eT : T.heap = h) {pc : Nat} {Ls : Array Slot} {z : Int32} {rest : List Value} (hret : meth.sig.returnType = some .int) (hd : decode c.code pc = .ok (.ireturn, 1))
    (hc : cells ≤ C) (hs : slots ≤ S) (hQ : Q (some (.int z)) h locs) : Win p.tables e below (PostQ s Q C S) (T.setTop (mkF m pc Ls (.int z :: rest))) := by
  subst eT
  obtain ⟨fs, hr, hrun, hended, hW, hsame⟩ := X.leave (v := some (.int z)) (fun h => by rw [hret] at h; cases h) hlk
  exact ⟨_, _, retI' X hx hret hd hr, hrun, hended, _, _, rfl, hQ, ⟨_, rfl⟩, hW, hsame.mono hc hs⟩
theorem winN (X : Stand p l e R s m args below meth c T locs cells slots) (hx : p.tables.exec = Jvm.exec) (hlk : meth.locks = false) (eT : T.heap = h) {pc : Nat} {Ls : Array Slot} {z z' : Int32} {rest : List Value} {t : FieldType} (hret : meth.sig.returnType = some t) (ht : t = .boolean ∨ t = .byte ∨ t = .char ∨ t = .short) (hd : decode c.code pc = .ok (.ireturn, 1))
    (hc : cells ≤ C) (hs : slots ≤ S) (hz : nar t z = z') (hQ : Q (some (.int z')) h locs) : Win p.tables e below (PostQ s Q C S) (T.setTop (mkF m pc Ls (.int z :: rest))) := by
  subst eT hz
  obtain ⟨fs, hr, hrun, hended, hW, hsame⟩ := X.leave (v := some (.int (nar t z))) (fun h => by rw [hret] at h; cases h) hlk
  exact ⟨_, _, retN X hx hret ht hd hr, hrun, hended, _, _, rfl, hQ, ⟨_, rfl⟩, hW, hsame.mono hc hs⟩
theorem winL (X : Stand p l e R s m args below meth c T locs cells slots) (hx : p.tables.exec = Jvm.exec) (hlk : meth.locks = false) (eT : T.heap = h) {pc : Nat} {Ls : Array Slot} {z : Int64} (hret : meth.sig.returnType = some .long) (hd : decode c.code pc = .ok (.lreturn, 1))
    (hc : cells ≤ C) (hs : slots ≤ S) (hQ : Q (some (.long z)) h locs) : Win p.tables e below (PostQ s Q C S) (T.setTop (mkF m pc Ls [.long z])) := by
  subst eT
  obtain ⟨fs, hr, hrun, hended, hW, hsame⟩ := X.leave (v := some (.long z)) (fun h => by rw [hret] at h; cases h) hlk
  exact ⟨_, _, X.lreturnOut hx hret hd hr, hrun, hended, _, _, rfl, hQ, ⟨_, rfl⟩, hW, hsame.mono hc hs⟩
theorem winA (X : Stand p l e R s m args below meth c T locs cells slots) (hx : p.tables.exec = Jvm.exec) (hlk : meth.locks = false) (eT : T.heap = h) {pc : Nat} {Ls : Array Slot} {w : Value} {t : FieldType} (hret : meth.sig.returnType = some t) (ht : t.isReference = true) (hv : w.isRef = true) (hd : decode c.code pc = .ok (.areturn, 1))
    (hc : cells ≤ C) (hs : slots ≤ S) (hQ : Q (some w) h locs) : Win p.tables e below (PostQ s Q C S) (T.setTop (mkF m pc Ls [w])) := by
  subst eT
  obtain ⟨fs, hr, hrun, hended, hW, hsame⟩ := X.leave (v := some w) (fun h => by rw [hret] at h; cases h) hlk
  exact ⟨_, _, retA' X hx hret ht hv hd hr, hrun, hended, _, _, rfl, hQ, ⟨_, rfl⟩, hW, hsame.mono hc hs⟩
theorem winV (X : Stand p l e R s m args below meth c T locs cells slots) (hx : p.tables.exec = Jvm.exec) (hlk : meth.locks = false) (eT : T.heap = h) {pc : Nat} {Ls : Array Slot} (hret : meth.sig.returnType = none) (hd : decode c.code pc = .ok (.return_, 1))
    (hc : cells ≤ C) (hs : slots ≤ S) (hQ : Q none h locs) : Win p.tables e below (PostQ s Q C S) (T.setTop (mkF m pc Ls [])) := by
  subst eT
  obtain ⟨fs, hr, hrun, hended, hW, hsame⟩ := X.leave (v := none) (fun _ => rfl) hlk
  exact ⟨_, _, X.returnOut hx hret hd hr, hrun, hended, _, _, rfl, hQ, ⟨_, rfl⟩, hW, hsame.mono hc hs⟩
def PostQW (s : State) (Q : Option Value → Heap → List Loc → Prop) (C S : Nat) (u : State) (o : Outcome) : Prop := ∃ v L, o = .returned v ∧ Q v u.heap L ∧ ReturnedEndW s o u L C S
theorem winNW {vm0 : Vm} {k0 : Nat} (hS : s.Since vm0 k0) (hk : k0 ≤ h.size) (X : Stand p l e R (s.setVm vm0) m args below meth c T locs cells slots) (hx : p.tables.exec = Jvm.exec) (hlk : meth.locks = false) (eT : T.heap = h) {pc : Nat} {Ls : Array Slot} {z z' : Int32} {rest : List Value} {t : FieldType} (hret : meth.sig.returnType = some t) (ht : t = .boolean ∨ t = .byte ∨ t = .char ∨ t = .short) (hd : decode c.code pc = .ok (.ireturn, 1))
    (hc : cells ≤ C) (hs : slots ≤ S) (hz : nar t z = z') (hQ : Q (some (.int z')) h locs) : Win p.tables e below (PostQW s Q C S) (T.setTop (mkF m pc Ls (.int z :: rest))) := by
  subst eT hz
  obtain ⟨fs, hr, hrun, hended, h1, h2, h3, h4⟩ := X.leaveW hS hk (v := some (.int (nar t z))) (fun h => by rw [hret] at h; cases h) hlk
  exact ⟨_, _, retN X hx hret ht hd hr, hrun, hended, _, _, rfl, hQ, ⟨_, rfl⟩, h2, h3, h4.mono hc hs⟩
end Ret
section Steps
variable {tb : Tables} [Ours tb] {e : Env} {below : List Frame} {P : State → Outcome → Prop} {T : State} {m : MethodId} {c : Code} {pc pc' : Nat} {ls : Array Slot} {st : List Value}
theorem s_iloadN {k : Fin 4} {v : Int32} (h : At T m c below) (hx : tb.exec = Jvm.exec) (hd : decode c.code pc = .ok (.iload_n k, 1)) (hp : pc + 1 = pc') (hl : ls[k.val]? = some (.val (.int v))) (w : Win tb e below P (T.setTop (mkF m pc' ls (.int v :: st)))) : Win tb e below P (T.setTop (mkF m pc ls st)) := by
  subst hp; exact Win.go (fun _ k => XS.iloadN h hx rfl hd hl k) w
theorem s_iload {k : Nat} {v : Int32} (h : At T m c below) (hx : tb.exec = Jvm.exec) (hd : decode c.code pc = .ok (.iload k, 2)) (hp : pc + 2 = pc') (hl : ls[k]? = some (.val (.int v))) (w : Win tb e below P (T.setTop (mkF m pc' ls (.int v :: st)))) : Win tb e below P (T.setTop (mkF m pc ls st)) := by
  subst hp; exact Win.go (fun _ k => XS.iload h hx rfl hd hl k) w
theorem s_lloadN {k : Fin 4} {v : Int64} (h : At T m c below) (hx : tb.exec = Jvm.exec) (hd : decode c.code pc = .ok (.lload_n k, 1)) (hp : pc + 1 = pc') (hl : ls[k.val]? = some (.val (.long v))) (w : Win tb e below P (T.setTop (mkF m pc' ls (.long v :: st)))) : Win tb e below P (T.setTop (mkF m pc ls st)) := by
  subst hp; exact Win.go (fun _ k => XS.lloadN h hx rfl hd hl k) w
theorem s_lload {k : Nat} {v : Int64} (h : At T m c below) (hx : tb.exec = Jvm.exec) (hd : decode c.code pc = .ok (.lload k, 2)) (hp : pc + 2 = pc') (hl : ls[k]? = some (.val (.long v))) (w : Win tb e below P (T.setTop (mkF m pc' ls (.long v :: st)))) : Win tb e below P (T.setTop (mkF m pc ls st)) := by
  subst hp; exact Win.go (fun _ k => XS.lload h hx rfl hd hl k) w
theorem s_aloadN {k : Fin 4} {v : Value} (h : At T m c below) (hx : tb.exec = Jvm.exec) (hd : decode c.code pc = .ok (.aload_n k, 1)) (hp : pc + 1 = pc') (hl : ls[k.val]? = some (.val v)) (hv : v.isRef = true) (w : Win tb e below P (T.setTop (mkF m pc' ls (v :: st)))) : Win tb e below P (T.setTop (mkF m pc ls st)) := by
  subst hp; exact Win.go (fun _ k => XS.aloadN h hx rfl hd hl hv k) w
theorem s_aload {k : Nat} {v : Value} (h : At T m c below) (hx : tb.exec = Jvm.exec) (hd : decode c.code pc = .ok (.aload k, 2)) (hp : pc + 2 = pc') (hl : ls[k]? = some (.val v)) (hv : v.isRef = true) (w : Win tb e below P (T.setTop (mkF m pc' ls (v :: st)))) : Win tb e below P (T.setTop (mkF m pc ls st)) := by
  subst hp; exact Win.go (fun _ k => XS.aload h hx rfl hd hl hv k) w
theorem s_iadd {x y : Int32} (h : At T m c below) (hx : tb.exec = Jvm.exec) (hd : decode c.code pc = .ok (.iadd, 1)) (hp : pc + 1 = pc') (w : Win tb e below P (T.setTop (mkF m pc' ls (.int (x + y) :: st)))) : Win tb e below P (T.setTop (mkF m pc ls (.int y :: .int x :: st))) := by
  subst hp; exact Win.go (fun _ k => XS.iadd h hx rfl hd rfl k) w
theorem s_isub {x y : Int32} (h : At T m c below) (hx : tb.exec = Jvm.exec) (hd : decode c.code pc = .ok (.isub, 1)) (hp : pc + 1 = pc') (w : Win tb e below P (T.setTop (mkF m pc' ls (.int (x - y) :: st)))) : Win tb e below P (T.setTop (mkF m pc ls (.int y :: .int x :: st))) := by
  subst hp; exact Win.go (fun _ k => XS.isub h hx rfl hd rfl k) w
theorem s_imul {x y : Int32} (h : At T m c below) (hx : tb.exec = Jvm.exec) (hd : decode c.code pc = .ok (.imul, 1)) (hp : pc + 1 = pc') (w : Win tb e below P (T.setTop (mkF m pc' ls (.int (x * y) :: st)))) : Win tb e below P (T.setTop (mkF m pc ls (.int y :: .int x :: st))) := by
  subst hp; exact Win.go (fun _ k => XS.imul h hx rfl hd rfl k) w
theorem s_iand {x y : Int32} (h : At T m c below) (hx : tb.exec = Jvm.exec) (hd : decode c.code pc = .ok (.iand, 1)) (hp : pc + 1 = pc') (w : Win tb e below P (T.setTop (mkF m pc' ls (.int (x &&& y) :: st)))) : Win tb e below P (T.setTop (mkF m pc ls (.int y :: .int x :: st))) := by
  subst hp; exact Win.go (fun _ k => XS.iand h hx rfl hd rfl k) w
theorem s_ior {x y : Int32} (h : At T m c below) (hx : tb.exec = Jvm.exec) (hd : decode c.code pc = .ok (.ior, 1)) (hp : pc + 1 = pc') (w : Win tb e below P (T.setTop (mkF m pc' ls (.int (x ||| y) :: st)))) : Win tb e below P (T.setTop (mkF m pc ls (.int y :: .int x :: st))) := by
  subst hp; exact Win.go (fun _ k => XS.ior h hx rfl hd rfl k) w
theorem s_ixor {x y : Int32} (h : At T m c below) (hx : tb.exec = Jvm.exec) (hd : decode c.code pc = .ok (.ixor, 1)) (hp : pc + 1 = pc') (w : Win tb e below P (T.setTop (mkF m pc' ls (.int (x ^^^ y) :: st)))) : Win tb e below P (T.setTop (mkF m pc ls (.int y :: .int x :: st))) := by
  subst hp; exact Win.go (fun _ k => XS.ixor h hx rfl hd rfl k) w
theorem s_ladd {x y : Int64} (h : At T m c below) (hx : tb.exec = Jvm.exec) (hd : decode c.code pc = .ok (.ladd, 1)) (hp : pc + 1 = pc') (w : Win tb e below P (T.setTop (mkF m pc' ls (.long (x + y) :: st)))) : Win tb e below P (T.setTop (mkF m pc ls (.long y :: .long x :: st))) := by
  subst hp; exact Win.go (fun _ k => XS.ladd h hx rfl hd rfl k) w
theorem s_lsub {x y : Int64} (h : At T m c below) (hx : tb.exec = Jvm.exec) (hd : decode c.code pc = .ok (.lsub, 1)) (hp : pc + 1 = pc') (w : Win tb e below P (T.setTop (mkF m pc' ls (.long (x - y) :: st)))) : Win tb e below P (T.setTop (mkF m pc ls (.long y :: .long x :: st))) := by
  subst hp; exact Win.go (fun _ k => XS.lsub h hx rfl hd rfl k) w
theorem s_lmul {x y : Int64} (h : At T m c below) (hx : tb.exec = Jvm.exec) (hd : decode c.code pc = .ok (.lmul, 1)) (hp : pc + 1 = pc') (w : Win tb e below P (T.setTop (mkF m pc' ls (.long (x * y) :: st)))) : Win tb e below P (T.setTop (mkF m pc ls (.long y :: .long x :: st))) := by
  subst hp; exact Win.go (fun _ k => XS.lmul h hx rfl hd rfl k) w
theorem s_land {x y : Int64} (h : At T m c below) (hx : tb.exec = Jvm.exec) (hd : decode c.code pc = .ok (.land, 1)) (hp : pc + 1 = pc') (w : Win tb e below P (T.setTop (mkF m pc' ls (.long (x &&& y) :: st)))) : Win tb e below P (T.setTop (mkF m pc ls (.long y :: .long x :: st))) := by
  subst hp; exact Win.go (fun _ k => XS.land h hx rfl hd rfl k) w
theorem s_lor {x y : Int64} (h : At T m c below) (hx : tb.exec = Jvm.exec) (hd : decode c.code pc = .ok (.lor, 1)) (hp : pc + 1 = pc') (w : Win tb e below P (T.setTop (mkF m pc' ls (.long (x ||| y) :: st)))) : Win tb e below P (T.setTop (mkF m pc ls (.long y :: .long x :: st))) := by
  subst hp; exact Win.go (fun _ k => XS.lor h hx rfl hd rfl k) w
theorem s_lxor {x y : Int64} (h : At T m c below) (hx : tb.exec = Jvm.exec) (hd : decode c.code pc = .ok (.lxor, 1)) (hp : pc + 1 = pc') (w : Win tb e below P (T.setTop (mkF m pc' ls (.long (x ^^^ y) :: st)))) : Win tb e below P (T.setTop (mkF m pc ls (.long y :: .long x :: st))) := by
  subst hp; exact Win.go (fun _ k => XS.lxor h hx rfl hd rfl k) w
theorem s_iconst {i : Int} {z : Int32} (h : At T m c below) (hx : tb.exec = Jvm.exec) (hd : decode c.code pc = .ok (.iconst i, 1)) (hp : pc + 1 = pc') (hz : Int32.ofInt i = z) (w : Win tb e below P (T.setTop (mkF m pc' ls (.int z :: st)))) : Win tb e below P (T.setTop (mkF m pc ls st)) := by
  subst hp hz; exact Win.go (fun _ k => XS.iconst h hx rfl hd k) w
theorem s_bipush {i : Int} {z : Int32} (h : At T m c below) (hx : tb.exec = Jvm.exec) (hd : decode c.code pc = .ok (.bipush i, 2)) (hp : pc + 2 = pc') (hz : (Int8.ofInt i).toInt32 = z) (w : Win tb e below P (T.setTop (mkF m pc' ls (.int z :: st)))) : Win tb e below P (T.setTop (mkF m pc ls st)) := by
  subst hp hz; exact Win.go (fun _ k => XS.bipush h hx rfl hd k) w
theorem s_sipush {i : Int} {z : Int32} (h : At T m c below) (hx : tb.exec = Jvm.exec) (hd : decode c.code pc = .ok (.sipush i, 3)) (hp : pc + 3 = pc') (hz : (Int16.ofInt i).toInt32 = z) (w : Win tb e below P (T.setTop (mkF m pc' ls (.int z :: st)))) : Win tb e below P (T.setTop (mkF m pc ls st)) := by
  subst hp hz; exact Win.go (fun _ k => XS.sipush h hx rfl hd k) w
theorem s_lconst {i : Fin 2} {z : Int64} (h : At T m c below) (hx : tb.exec = Jvm.exec) (hd : decode c.code pc = .ok (.lconst i, 1)) (hp : pc + 1 = pc') (hz : Int64.ofNat i = z) (w : Win tb e below P (T.setTop (mkF m pc' ls (.long z :: st)))) : Win tb e below P (T.setTop (mkF m pc ls st)) := by
  subst hp hz; exact Win.go (fun _ k => XS.lconst h hx rfl hd k) w
theorem s_goto {o : Int} (h : At T m c below) (hx : tb.exec = Jvm.exec) (hd : decode c.code pc = .ok (.goto o, 3)) (ho : 0 ≤ (pc : Int) + o) (hp : ((pc : Int) + o).toNat = pc') (w : Win tb e below P (T.setTop (mkF m pc' ls st))) : Win tb e below P (T.setTop (mkF m pc ls st)) := by
  exact Win.go (fun _ k => XS.goto h hx rfl rfl hd ho hp k) w
theorem s_icmpYes {cd : ClassFile.Cond} {o : Int} {x y : Int32} (h : At T m c below) (hx : tb.exec = Jvm.exec) (hd : decode c.code pc = .ok (.if_icmp cd o, 3)) (hc : if_icmp.holds cd x y = true) (ho : 0 ≤ (pc : Int) + o) (hp : ((pc : Int) + o).toNat = pc') (w : Win tb e below P (T.setTop (mkF m pc' ls st))) : Win tb e below P (T.setTop (mkF m pc ls (.int y :: .int x :: st))) := by
  exact Win.go (fun _ k => XS.icmpYes h hx rfl rfl hd rfl hc ho hp k) w
theorem s_icmpNo {cd : ClassFile.Cond} {o : Int} {x y : Int32} (h : At T m c below) (hx : tb.exec = Jvm.exec) (hd : decode c.code pc = .ok (.if_icmp cd o, 3)) (hp : pc + 3 = pc') (hc : if_icmp.holds cd x y = false) (w : Win tb e below P (T.setTop (mkF m pc' ls st))) : Win tb e below P (T.setTop (mkF m pc ls (.int y :: .int x :: st))) := by
  subst hp; exact Win.go (fun _ k => XS.icmpNo h hx rfl hd rfl hc k) w
theorem s_ifYes {cd : ClassFile.Cond} {o : Int} {x : Int32} (h : At T m c below) (hx : tb.exec = Jvm.exec) (hd : decode c.code pc = .ok (.ifCond cd o, 3)) (hc : ifCond.holds cd x = true) (ho : 0 ≤ (pc : Int) + o) (hp : ((pc : Int) + o).toNat = pc') (w : Win tb e below P (T.setTop (mkF m pc' ls st))) : Win tb e below P (T.setTop (mkF m pc ls (.int x :: st))) := by
  exact Win.go (fun _ k => XS.ifYes h hx rfl rfl hd rfl hc ho hp k) w
theorem s_ifNo {cd : ClassFile.Cond} {o : Int} {x : Int32} (h : At T m c below) (hx : tb.exec = Jvm.exec) (hd : decode c.code pc = .ok (.ifCond cd o, 3)) (hp : pc + 3 = pc') (hc : ifCond.holds cd x = false) (w : Win tb e below P (T.setTop (mkF m pc' ls st))) : Win tb e below P (T.setTop (mkF m pc ls (.int x :: st))) := by
  subst hp; exact Win.go (fun _ k => XS.ifNo h hx rfl hd rfl hc k) w
theorem s_lcmp {x y : Int64} (h : At T m c below) (hx : tb.exec = Jvm.exec) (hd : decode c.code pc = .ok (.lcmp, 1)) (hp : pc + 1 = pc') (w : Win tb e below P (T.setTop (mkF m pc' ls (.int (lcmpW x y) :: st)))) : Win tb e below P (T.setTop (mkF m pc ls (.long y :: .long x :: st))) := by
  subst hp; exact Win.go (fun _ k => XS.lcmp h hx rfl hd rfl k) w
theorem s_istore {k : Nat} {x : Int32} {l' : Array Slot} (h : At T m c below) (hx : tb.exec = Jvm.exec) (hd : decode c.code pc = .ok (.istore k, 2)) (hp : pc + 2 = pc') (hl : storeLocals ls k (.int x) = some l') (w : Win tb e below P (T.setTop (mkF m pc' l' st))) : Win tb e below P (T.setTop (mkF m pc ls (.int x :: st))) := by
  subst hp; exact Win.go (fun _ k => XS.istore h hx rfl hd rfl hl k) w
theorem s_istoreN {k : Fin 4} {x : Int32} {l' : Array Slot} (h : At T m c below) (hx : tb.exec = Jvm.exec) (hd : decode c.code pc = .ok (.istore_n k, 1)) (hp : pc + 1 = pc') (hl : storeLocals ls k.val (.int x) = some l') (w : Win tb e below P (T.setTop (mkF m pc' l' st))) : Win tb e below P (T.setTop (mkF m pc ls (.int x :: st))) := by
  subst hp; exact Win.go (fun _ k => XS.istoreN h hx rfl hd rfl hl k) w
theorem s_lstore {k : Nat} {x : Int64} {l' : Array Slot} (h : At T m c below) (hx : tb.exec = Jvm.exec) (hd : decode c.code pc = .ok (.lstore k, 2)) (hp : pc + 2 = pc') (hl : storeLocals ls k (.long x) = some l') (w : Win tb e below P (T.setTop (mkF m pc' l' st))) : Win tb e below P (T.setTop (mkF m pc ls (.long x :: st))) := by
  subst hp; exact Win.go (fun _ k => XS.lstore h hx rfl hd rfl hl k) w
theorem s_lstoreN {k : Fin 4} {x : Int64} {l' : Array Slot} (h : At T m c below) (hx : tb.exec = Jvm.exec) (hd : decode c.code pc = .ok (.lstore_n k, 1)) (hp : pc + 1 = pc') (hl : storeLocals ls k.val (.long x) = some l') (w : Win tb e below P (T.setTop (mkF m pc' l' st))) : Win tb e below P (T.setTop (mkF m pc ls (.long x :: st))) := by
  subst hp; exact Win.go (fun _ k => XS.lstoreN h hx rfl hd rfl hl k) w
theorem s_astore {k : Nat} {x : Value} {l' : Array Slot} (h : At T m c below) (hx : tb.exec = Jvm.exec) (hd : decode c.code pc = .ok (.astore k, 2)) (hp : pc + 2 = pc') (hv : x.isRef = true) (hl : storeLocals ls k x = some l') (w : Win tb e below P (T.setTop (mkF m pc' l' st))) : Win tb e below P (T.setTop (mkF m pc ls (x :: st))) := by
  subst hp; exact Win.go (fun _ k => XS.astore h hx rfl hd rfl hv hl k) w
theorem s_astoreN {k : Fin 4} {x : Value} {l' : Array Slot} (h : At T m c below) (hx : tb.exec = Jvm.exec) (hd : decode c.code pc = .ok (.astore_n k, 1)) (hp : pc + 1 = pc') (hv : x.isRef = true) (hl : storeLocals ls k.val x = some l') (w : Win tb e below P (T.setTop (mkF m pc' l' st))) : Win tb e below P (T.setTop (mkF m pc ls (x :: st))) := by
  subst hp; exact Win.go (fun _ k => XS.astoreN h hx rfl hd rfl hv hl k) w
theorem s_dup {x : Value} (h : At T m c below) (hx : tb.exec = Jvm.exec) (hd : decode c.code pc = .ok (.dup, 1)) (hp : pc + 1 = pc') (hc : x.category = 1) (w : Win tb e below P (T.setTop (mkF m pc' ls (x :: x :: st)))) : Win tb e below P (T.setTop (mkF m pc ls (x :: st))) := by
  subst hp; exact Win.go (fun _ k => XS.dup h hx rfl hd rfl hc k) w
end Steps
/-- an array of ints by its places: place j holds f j -/
def AF (Z : State) (h : Heap) (a : Addr) (ty : FieldType) (n : Nat) (f : Int → Int32) : Prop := ∃ cl : Cell, Arr Z h a cl ty ∧ cl.slots.size = n ∧ ∀ j : Int32, 0 ≤ j.toInt → j.toInt < n → cl.slots[j.toNatClampNeg]? = some (.int (f j.toInt))
section AFs
variable {Z : State} {h h' : Heap} {a b : Addr} {ty : FieldType} {n : Nat} {f : Int → Int32} {ws : List Addr} {sl : Nat} {v : Value}
theorem AF.lt (F : AF Z h a ty n f) : a < h.size := by obtain ⟨c, A, -⟩ := F; exact A.lt
theorem AF.ext (F : AF Z h a ty n f) (E : Ext h h') : AF Z h' a ty n f := by obtain ⟨c, A, r⟩ := F; exact ⟨c, A.ext E, r⟩
theorem AF.other (F : AF Z h b ty n f) (W : Wr h h' a sl v) (q : b ≠ a) : AF Z h' b ty n f := by obtain ⟨c, A, r⟩ := F; exact ⟨c, A.other W q, r⟩
theorem AF.keep (F : AF Z h a ty n f) (K : Keep h h' ws) (q : a ∉ ws) : AF Z h' a ty n f := by obtain ⟨c, A, r⟩ := F; exact ⟨c, ⟨K.2.1 a c A.1 q, A.2⟩, r⟩
theorem AF.inb {c : Cell} {j : Int32} (S : c.slots.size = n) (q : 0 ≤ j.toInt ∧ j.toInt < n) : ¬ (j < 0 ∨ c.slots.size ≤ j.toNatClampNeg) := by
  rw [S, Int32.lt_iff_toInt_lt]; have e0 : (0 : Int32).toInt = 0 := rfl
  simp only [Int32.toNatClampNeg]; omega
def updF (f : Int → Int32) (j : Int) (v : Int32) : Int → Int32 := fun i => if i = j then v else f i
theorem updF_hit (f : Int → Int32) (j : Int) (v : Int32) : updF f j v j = v := if_pos rfl
theorem updF_miss {f : Int → Int32} {i j : Int} {v : Int32} (q : i ≠ j) : updF f j v i = f i := if_neg q
theorem AF.set {cl : Cell} {j v : Int32} (A : Arr Z h a cl ty) (S : cl.slots.size = n) (G : ∀ j : Int32, 0 ≤ j.toInt → j.toInt < n → cl.slots[j.toNatClampNeg]? = some (.int (f j.toInt))) (W : Wr h h' a j.toNatClampNeg (.int v)) (q : 0 ≤ j.toInt ∧ j.toInt < n) : AF Z h' a ty n (updF f j.toInt v) := by
  have e0 : (0 : Int32).toInt = 0 := rfl
  refine ⟨_, A.same W, by rw [sz_set]; exact S, fun k h0 h1 => ?_⟩
  by_cases e : k = j
  · subst e; rw [get_hit (AF.inb S q) rfl, updF_hit]
  · rw [get_miss (by rw [Int32.lt_iff_toInt_lt]; omega) (by rw [Int32.lt_iff_toInt_lt]; omega) e, updF_miss (fun z => e (Int32.toInt_inj.mp z))]; exact G k h0 h1
theorem AF.zero {k : ClassId} {z : Int32} (F : Arv Z h a k ty z [] (.int 0)) (q : z.toNatClampNeg = n) : AF Z h a ty n (fun _ => 0) := by
  obtain ⟨c, A, -, S, -, H, -⟩ := F
  refine ⟨c, A, S.trans q, fun j h0 h1 => ?_⟩
  have e : j.toNatClampNeg = j.toInt.toNat := rfl
  exact H _ (by rw [S, q, e]; omega)
theorem AF.ex {k : ClassId} {z : Int32} {vs : List Value} {dv : Value} (F : Arv Z h a k .byte z vs dv) (q : z.toNatClampNeg = n) : ∃ f, AF Z h a .byte n f := by
  obtain ⟨c, A, -, S, -, H, G⟩ := F
  refine ⟨fun i => match c.slots[i.toNat]? with | some (.int x) => x | _ => 0, c, A, S.trans q, fun j h0 h1 => ?_⟩
  have e : j.toNatClampNeg = j.toInt.toNat := rfl
  have hj : j.toInt.toNat < c.slots.size := by rw [S, q]; omega
  have e1 := H _ hj
  have e2 := G _ hj
  show c.slots[j.toInt.toNat]? = some (.int (match c.slots[j.toInt.toNat]? with | some (.int x) => x | _ => 0))
  cases hv : vs.getD j.toInt.toNat dv <;> rw [hv] at e1 e2 <;> first | (rw [e1]; done) | (exact absurd e2 (by simp [fits]))
/-- a byte array of length z -/
def BA (Z : State) (h : Heap) (a : Addr) (z : Int32) : Prop := ∃ (k : ClassId) (vs : List Value), Arv Z h a k .byte z vs (.int 0)
variable {z : Int32}
theorem BA.lt (F : BA Z h a z) : a < h.size := by obtain ⟨_, _, A⟩ := F; exact A.lt
theorem BA.ext (F : BA Z h a z) (E : Ext h h') : BA Z h' a z := by obtain ⟨k, vs, A⟩ := F; exact ⟨k, vs, A.ext E⟩
theorem BA.other (F : BA Z h b z) (W : Wr h h' a sl v) (q : b ≠ a) : BA Z h' b z := by obtain ⟨k, vs, A⟩ := F; exact ⟨k, vs, A.other W q⟩
theorem BA.keep (F : BA Z h a z) (K : Keep h h' ws) (q : a ∉ ws) : BA Z h' a z := by obtain ⟨k, vs, A⟩ := F; exact ⟨k, vs, A.keep K q⟩
theorem cpBA {p : Program} {l : Launch} {e : Env} {R : Room} {s : State} {m : MethodId} {args : Array Value} {below : List Frame} {meth : Method} {c : Code} {T : State} {locs : List Loc} {cells slots : Nat}
    (X : Stand p l e R s m args below meth c T locs cells slots) (hx : p.tables.exec = Jvm.exec) (hZ : Z.Warmed39 s.vm) {a0 : Array Value} {own : String} {index : Nat} (hown : s.vm.findClass own = some m.cls)
    (w1 : (Cond.methodLink own index Jvm.Stand.acN).before a0 Z = true) (w2 : (Cond.native Jvm.Stand.acN).before a0 Z = true) (w3 : (Cond.static Jvm.Stand.acN).before a0 Z = true) (w4 : (Cond.initialized "java/lang/System").before a0 Z = true) (eT : T.heap = h)
    {z' sp dp nn : Int32} (A : BA Z h a z) (B : BA Z h b z') (h1 : 0 ≤ sp.toInt) (h2 : 0 ≤ dp.toInt) (h3 : 0 ≤ nn.toInt) (h4 : sp.toInt + nn.toInt ≤ z.toInt) (h5 : dp.toInt + nn.toInt ≤ z'.toInt) {n0 : Nat} (N : Fr n0 locs) (ge : n0 ≤ b)
    {g : JFrame} (hg : g.method = m) (hsize : g.locals.size = c.maxLocals) {rest : List Value} (hs : g.stack = .int nn :: .int dp :: .ref b :: .int sp :: .ref a :: rest) (hd : decode c.code g.pc = .ok (.invokestatic index, 3))
    (hf : 1 ≤ R.frames) {W : Nat} (hW : 2 * g.monitorRoom + (rest.map fun v => v.category).sum ≤ W) (hlo : W + (nativeFrameWords "java/lang/System" "arraycopy" 5 + 11) ≤ R.locals) :
    ∃ T' h' L, Stand p l e R s m args below meth c T' L cells slots ∧ T'.heap = h' ∧ Fr n0 L ∧ Keep h h' [b] ∧ BA Z h' b z' ∧
      ∀ target, Steps p.tables e below (T'.setTop { g with pc := g.pc + 3, stack := rest }) target → Steps p.tables e below (T.setTop g) target := by
  have e0 : (0 : Int32).toInt = 0 := rfl
  obtain ⟨k, vs, A⟩ := A
  obtain ⟨k', vd, B⟩ := B
  have B' := B.pad (pad_rep vd (.int 0) z'.toNatClampNeg)
  obtain ⟨T', h', L, X', e', N', K, B2, st⟩ := cpA X hx hZ hown w1 w2 w3 w4 eT A B' (Or.inl ⟨rfl, rfl⟩) (by rw [Int32.lt_iff_toInt_lt]; omega) (by rw [Int32.lt_iff_toInt_lt]; omega) (by rw [Int32.lt_iff_toInt_lt]; omega) (by simp only [Int32.toNatClampNeg]; omega) (by simp only [Int32.toNatClampNeg]; omega) rfl (by simp only [List.length_append, List.length_replicate, Int32.toNatClampNeg]; omega) N ge hg hsize hs hd hf hW hlo
  exact ⟨T', h', L, X', e', N', K, ⟨k', _, B2⟩, st⟩
end AFs
theorem own_selPriv {s : State} {args : Array Value} {y y' : MethodName} (hn : y.cls = y'.cls) (w : (Cond.selects y'.cls y' y').before args s = true) (hpriv : s.PrivateAt y) (hinst : (Cond.instanceMethod y).before args s = true) (hy : y.cls ≠ "java/lang/invoke/MethodHandle" ∧ y.cls ≠ "java/lang/invoke/VarHandle") : (Cond.selects y.cls y y).before args s = true := by
  obtain ⟨c, r, m, h1, -, h3, -, k, h5, h6⟩ := Cond.selects_spec w
  have h7 := findClass_of_methodNamed h3
  cases h1.symm.trans h7
  exact selects_self_of_private (by rw [hn]; exact h7) h5 h6 hpriv hinst hy
theorem own_lremEq (x y : Int64) : x - (x / y) * y = x % y := by
  refine Int64.toInt_inj.mp ?_
  have h1 := rng64 (x % y)
  have e : x.toInt - x.toInt.tdiv y.toInt * y.toInt = (x % y).toInt := by rw [Int64.toInt_mod, Int.tmod_def, Int.mul_comm]
  rw [Int64.toInt_sub, Int64.toInt_mul, Int64.toInt_div, Int.bmod_mul_bmod, Int.sub_bmod_bmod, e]
  exact Int.bmod_eq_of_le_mul_two (by omega) (by omega)
theorem lremM {p : Program} {l : Launch} {e : Env} {R : Room} {s : State} {m : MethodId} {args : Array Value} {below : List Frame} {meth : Method} {c : Code} {T : State} {locs : List Loc} {cells slots : Nat} {g : JFrame} {target : State} (X : Stand p l e R s m args below meth c T locs cells slots) (hx : p.tables.exec = Jvm.exec) (hg : g.method = m) {x y : Int64} {rest : List Value} (hd : decode c.code g.pc = .ok (.lrem, 1)) (hs : g.stack = .long y :: .long x :: rest) (hy : y ≠ 0)
    (hr : Steps p.tables e below (T.setTop { g with pc := g.pc + 1, stack := .long (x % y) :: rest }) target) : Steps p.tables e below (T.setTop g) target :=
  XS.lrem X.here hx hg hd hs hy (by rw [own_lremEq]; exact hr)
/-! comparisons by the numbers -/
theorem tltI {x y : Int32} (h : x.toInt < y.toInt) : if_icmp.holds .lt x y = true ∧ if_icmp.holds .ge x y = false ∧ if_icmp.holds .gt y x = true ∧ if_icmp.holds .le y x = false := tlt (Int32.lt_iff_toInt_lt.mpr h)
theorem fltI {x y : Int32} (h : ¬ x.toInt < y.toInt) : if_icmp.holds .lt x y = false ∧ if_icmp.holds .ge x y = true ∧ if_icmp.holds .gt y x = false ∧ if_icmp.holds .le y x = true := flt (fun q => h (Int32.lt_iff_toInt_lt.mp q))
theorem teqI {x y : Int32} (h : x.toInt = y.toInt) : if_icmp.holds .eq x y = true ∧ if_icmp.holds .ne x y = false := teq (Int32.toInt_inj.mp h)
theorem feqI {x y : Int32} (h : ¬ x.toInt = y.toInt) : if_icmp.holds .eq x y = false ∧ if_icmp.holds .ne x y = true := feq (fun q => h (congrArg _ q))
theorem tltZ {x y : Int32} (h : x.toInt < y.toInt) : (y = 0 → ifCond.holds .lt x = true ∧ ifCond.holds .ge x = false) ∧ (x = 0 → ifCond.holds .gt y = true ∧ ifCond.holds .le y = false) :=
  ⟨fun q => by subst q; exact ⟨(if0 _ _).trans (tltI h).1, (if0 _ _).trans (tltI h).2.1⟩, fun q => by subst q; exact ⟨(if0 _ _).trans (tltI h).2.2.1, (if0 _ _).trans (tltI h).2.2.2⟩⟩
theorem tltL {x y : Int64} (h : x.toInt < y.toInt) : ifCond.holds .lt (lcmpW x y) = true ∧ ifCond.holds .ge (lcmpW x y) = false ∧ ifCond.holds .gt (lcmpW y x) = true ∧ ifCond.holds .le (lcmpW y x) = false :=
  have h' := Int64.lt_iff_toInt_lt.mpr h
  ⟨(if0 _ _).trans (tlt ((lw_lt x y).mpr h')).1, (if0 _ _).trans (tlt ((lw_lt x y).mpr h')).2.1, (if0 _ _).trans (tlt ((lw_gt y x).mpr h')).2.2.1, (if0 _ _).trans (tlt ((lw_gt y x).mpr h')).2.2.2⟩
theorem fltL {x y : Int64} (h : ¬ x.toInt < y.toInt) : ifCond.holds .lt (lcmpW x y) = false ∧ ifCond.holds .ge (lcmpW x y) = true ∧ ifCond.holds .gt (lcmpW y x) = false ∧ ifCond.holds .le (lcmpW y x) = true :=
  have h1 : ¬ lcmpW x y < 0 := fun q => h (Int64.lt_iff_toInt_lt.mp ((lw_lt x y).mp q))
  have h2 : ¬ 0 < lcmpW y x := fun q => h (Int64.lt_iff_toInt_lt.mp ((lw_gt y x).mp q))
  ⟨(if0 _ _).trans (flt h1).1, (if0 _ _).trans (flt h1).2.1, (if0 _ _).trans (flt h2).2.2.1, (if0 _ _).trans (flt h2).2.2.2⟩
theorem teqL {x y : Int64} (h : x.toInt = y.toInt) : ifCond.holds .eq (lcmpW x y) = true ∧ ifCond.holds .ne (lcmpW x y) = false :=
  have h' := (lw_eq x y).mpr (Int64.toInt_inj.mp h)
  ⟨(if0 _ _).trans (teq h').1, (if0 _ _).trans (teq h').2⟩
theorem feqL {x y : Int64} (h : ¬ x.toInt = y.toInt) : ifCond.holds .eq (lcmpW x y) = false ∧ ifCond.holds .ne (lcmpW x y) = true :=
  have h' : ¬ lcmpW x y = 0 := fun q => h (congrArg _ ((lw_eq x y).mp q))
  ⟨(if0 _ _).trans (feq h').1, (if0 _ _).trans (feq h').2⟩
end Jvm.OwnWalk
namespace Jvm.Pilot.@@N@@
open Jvm Jvm.ClassFile Sem Op Lib Jvm.Free Jvm.Stand Jvm.LawKit Jvm.RoadKit Bundle Jvm.OwnWalk Jvm.Pilot.@@N@@.Jvm.D
def isN (c : Int) : Prop := (65 ≤ c ∧ c ≤ 90) ∨ (97 ≤ c ∧ c ≤ 122) ∨ (95 ≤ c ∧ c ≤ 95) ∨ (192 ≤ c ∧ c ≤ 214) ∨ (216 ≤ c ∧ c ≤ 246) ∨ (248 ≤ c ∧ c ≤ 767) ∨ (880 ≤ c ∧ c ≤ 893) ∨ (895 ≤ c ∧ c ≤ 8191) ∨ (8204 ≤ c ∧ c ≤ 8205) ∨ (8304 ≤ c ∧ c ≤ 8591) ∨ (11264 ≤ c ∧ c ≤ 12271) ∨ (12289 ≤ c ∧ c ≤ 55295) ∨ (63744 ≤ c ∧ c ≤ 64975) ∨ (65008 ≤ c ∧ c ≤ 65533) ∨ (65536 ≤ c ∧ c ≤ 983039)
def exc (c : Int) : Prop := c < 65 ∨ 983039 < c ∨ (c ≤ 127 ∧ ((90 < c ∧ c < 97 ∧ c ≠ 95) ∨ 122 < c)) ∨ (127 < c ∧ c ≤ 255 ∧ (c < 192 ∨ c = 215 ∨ c = 247)) ∨ (255 < c ∧ c ≤ 1023 ∧ ((768 ≤ c ∧ c ≤ 879) ∨ c = 894)) ∨ (8191 < c ∧ c ≤ 12287 ∧ (c ≤ 8203 ∨ (8206 ≤ c ∧ c ≤ 8303) ∨ (8592 ≤ c ∧ c ≤ 11263) ∨ 12272 ≤ c)) ∨ (12287 < c ∧ c ≤ 65535 ∧ (c = 12288 ∨ (55296 ≤ c ∧ c ≤ 63743) ∨ (64976 ≤ c ∧ c ≤ 65007) ∨ 65534 ≤ c))
theorem isN_exc (c : Int) : isN c ↔ ¬ exc c := by unfold isN exc; omega
theorem d1_0 : decode prog_21_method_7_code 0 = .ok (.iload_n 0, 1) := by decide +kernel
theorem d1_1 : decode prog_21_method_7_code 1 = .ok (.bipush 65, 2) := by decide +kernel
theorem d1_3 : decode prog_21_method_7_code 3 = .ok (.if_icmp .lt 9, 3) := by decide +kernel
theorem d1_6 : decode prog_21_method_7_code 6 = .ok (.iload_n 0, 1) := by decide +kernel
theorem d1_7 : decode prog_21_method_7_code 7 = .ok (.bipush 90, 2) := by decide +kernel
theorem d1_9 : decode prog_21_method_7_code 9 = .ok (.if_icmp .le 182, 3) := by decide +kernel
theorem d1_12 : decode prog_21_method_7_code 12 = .ok (.iload_n 0, 1) := by decide +kernel
theorem d1_13 : decode prog_21_method_7_code 13 = .ok (.bipush 97, 2) := by decide +kernel
theorem d1_15 : decode prog_21_method_7_code 15 = .ok (.if_icmp .lt 9, 3) := by decide +kernel
theorem d1_18 : decode prog_21_method_7_code 18 = .ok (.iload_n 0, 1) := by decide +kernel
theorem d1_19 : decode prog_21_method_7_code 19 = .ok (.bipush 122, 2) := by decide +kernel
theorem d1_21 : decode prog_21_method_7_code 21 = .ok (.if_icmp .le 170, 3) := by decide +kernel
theorem d1_24 : decode prog_21_method_7_code 24 = .ok (.iload_n 0, 1) := by decide +kernel
theorem d1_25 : decode prog_21_method_7_code 25 = .ok (.bipush 95, 2) := by decide +kernel
theorem d1_27 : decode prog_21_method_7_code 27 = .ok (.if_icmp .eq 164, 3) := by decide +kernel
theorem d1_30 : decode prog_21_method_7_code 30 = .ok (.iload_n 0, 1) := by decide +kernel
theorem d1_31 : decode prog_21_method_7_code 31 = .ok (.sipush 192, 3) := by decide +kernel
theorem d1_34 : decode prog_21_method_7_code 34 = .ok (.if_icmp .lt 10, 3) := by decide +kernel
theorem d1_37 : decode prog_21_method_7_code 37 = .ok (.iload_n 0, 1) := by decide +kernel
theorem d1_38 : decode prog_21_method_7_code 38 = .ok (.sipush 214, 3) := by decide +kernel
theorem d1_41 : decode prog_21_method_7_code 41 = .ok (.if_icmp .le 150, 3) := by decide +kernel
theorem d1_44 : decode prog_21_method_7_code 44 = .ok (.iload_n 0, 1) := by decide +kernel
theorem d1_45 : decode prog_21_method_7_code 45 = .ok (.sipush 216, 3) := by decide +kernel
theorem d1_48 : decode prog_21_method_7_code 48 = .ok (.if_icmp .lt 10, 3) := by decide +kernel
theorem d1_51 : decode prog_21_method_7_code 51 = .ok (.iload_n 0, 1) := by decide +kernel
theorem d1_52 : decode prog_21_method_7_code 52 = .ok (.sipush 246, 3) := by decide +kernel
theorem d1_55 : decode prog_21_method_7_code 55 = .ok (.if_icmp .le 136, 3) := by decide +kernel
theorem d1_58 : decode prog_21_method_7_code 58 = .ok (.iload_n 0, 1) := by decide +kernel
theorem d1_59 : decode prog_21_method_7_code 59 = .ok (.sipush 248, 3) := by decide +kernel
theorem d1_62 : decode prog_21_method_7_code 62 = .ok (.if_icmp .lt 10, 3) := by decide +kernel
theorem d1_65 : decode prog_21_method_7_code 65 = .ok (.iload_n 0, 1) := by decide +kernel
theorem d1_66 : decode prog_21_method_7_code 66 = .ok (.sipush 767, 3) := by decide +kernel
theorem d1_69 : decode prog_21_method_7_code 69 = .ok (.if_icmp .le 122, 3) := by decide +kernel
theorem d1_72 : decode prog_21_method_7_code 72 = .ok (.iload_n 0, 1) := by decide +kernel
theorem d1_73 : decode prog_21_method_7_code 73 = .ok (.sipush 880, 3) := by decide +kernel
theorem d1_76 : decode prog_21_method_7_code 76 = .ok (.if_icmp .lt 10, 3) := by decide +kernel
theorem d1_79 : decode prog_21_method_7_code 79 = .ok (.iload_n 0, 1) := by decide +kernel
theorem d1_80 : decode prog_21_method_7_code 80 = .ok (.sipush 893, 3) := by decide +kernel
theorem d1_83 : decode prog_21_method_7_code 83 = .ok (.if_icmp .le 108, 3) := by decide +kernel
theorem d1_86 : decode prog_21_method_7_code 86 = .ok (.iload_n 0, 1) := by decide +kernel
theorem d1_87 : decode prog_21_method_7_code 87 = .ok (.sipush 895, 3) := by decide +kernel
theorem d1_90 : decode prog_21_method_7_code 90 = .ok (.if_icmp .lt 10, 3) := by decide +kernel
theorem d1_93 : decode prog_21_method_7_code 93 = .ok (.iload_n 0, 1) := by decide +kernel
theorem d1_94 : decode prog_21_method_7_code 94 = .ok (.sipush 8191, 3) := by decide +kernel
theorem d1_97 : decode prog_21_method_7_code 97 = .ok (.if_icmp .le 94, 3) := by decide +kernel
theorem d1_100 : decode prog_21_method_7_code 100 = .ok (.iload_n 0, 1) := by decide +kernel
theorem d1_101 : decode prog_21_method_7_code 101 = .ok (.sipush 8204, 3) := by decide +kernel
theorem d1_104 : decode prog_21_method_7_code 104 = .ok (.if_icmp .lt 10, 3) := by decide +kernel
theorem d1_107 : decode prog_21_method_7_code 107 = .ok (.iload_n 0, 1) := by decide +kernel
theorem d1_108 : decode prog_21_method_7_code 108 = .ok (.sipush 8205, 3) := by decide +kernel
theorem d1_111 : decode prog_21_method_7_code 111 = .ok (.if_icmp .le 80, 3) := by decide +kernel
theorem d1_114 : decode prog_21_method_7_code 114 = .ok (.iload_n 0, 1) := by decide +kernel
theorem d1_115 : decode prog_21_method_7_code 115 = .ok (.sipush 8304, 3) := by decide +kernel
theorem d1_118 : decode prog_21_method_7_code 118 = .ok (.if_icmp .lt 10, 3) := by decide +kernel
theorem d1_121 : decode prog_21_method_7_code 121 = .ok (.iload_n 0, 1) := by decide +kernel
theorem d1_122 : decode prog_21_method_7_code 122 = .ok (.sipush 8591, 3) := by decide +kernel
theorem d1_125 : decode prog_21_method_7_code 125 = .ok (.if_icmp .le 66, 3) := by decide +kernel
theorem d1_128 : decode prog_21_method_7_code 128 = .ok (.iload_n 0, 1) := by decide +kernel
theorem d1_129 : decode prog_21_method_7_code 129 = .ok (.sipush 11264, 3) := by decide +kernel
theorem d1_132 : decode prog_21_method_7_code 132 = .ok (.if_icmp .lt 10, 3) := by decide +kernel
theorem d1_135 : decode prog_21_method_7_code 135 = .ok (.iload_n 0, 1) := by decide +kernel
theorem d1_136 : decode prog_21_method_7_code 136 = .ok (.sipush 12271, 3) := by decide +kernel
theorem d1_139 : decode prog_21_method_7_code 139 = .ok (.if_icmp .le 52, 3) := by decide +kernel
theorem d1_142 : decode prog_21_method_7_code 142 = .ok (.iload_n 0, 1) := by decide +kernel
theorem d1_143 : decode prog_21_method_7_code 143 = .ok (.sipush 12289, 3) := by decide +kernel
theorem d1_146 : decode prog_21_method_7_code 146 = .ok (.if_icmp .lt 9, 3) := by decide +kernel
theorem d1_149 : decode prog_21_method_7_code 149 = .ok (.iload_n 0, 1) := by decide +kernel
theorem d1_150 : decode prog_21_method_7_code 150 = .ok (.ldc 78, 2) := by decide +kernel
theorem d1_152 : decode prog_21_method_7_code 152 = .ok (.if_icmp .le 39, 3) := by decide +kernel
theorem d1_155 : decode prog_21_method_7_code 155 = .ok (.iload_n 0, 1) := by decide +kernel
theorem d1_156 : decode prog_21_method_7_code 156 = .ok (.ldc 79, 2) := by decide +kernel
theorem d1_158 : decode prog_21_method_7_code 158 = .ok (.if_icmp .lt 9, 3) := by decide +kernel
theorem d1_161 : decode prog_21_method_7_code 161 = .ok (.iload_n 0, 1) := by decide +kernel
theorem d1_162 : decode prog_21_method_7_code 162 = .ok (.ldc 80, 2) := by decide +kernel
theorem d1_164 : decode prog_21_method_7_code 164 = .ok (.if_icmp .le 27, 3) := by decide +kernel
theorem d1_167 : decode prog_21_method_7_code 167 = .ok (.iload_n 0, 1) := by decide +kernel
theorem d1_168 : decode prog_21_method_7_code 168 = .ok (.ldc 81, 2) := by decide +kernel
theorem d1_170 : decode prog_21_method_7_code 170 = .ok (.if_icmp .lt 9, 3) := by decide +kernel
theorem d1_173 : decode prog_21_method_7_code 173 = .ok (.iload_n 0, 1) := by decide +kernel
theorem d1_174 : decode prog_21_method_7_code 174 = .ok (.ldc 82, 2) := by decide +kernel
theorem d1_176 : decode prog_21_method_7_code 176 = .ok (.if_icmp .le 15, 3) := by decide +kernel
theorem d1_179 : decode prog_21_method_7_code 179 = .ok (.iload_n 0, 1) := by decide +kernel
theorem d1_180 : decode prog_21_method_7_code 180 = .ok (.ldc 83, 2) := by decide +kernel
theorem d1_182 : decode prog_21_method_7_code 182 = .ok (.if_icmp .lt 13, 3) := by decide +kernel
theorem d1_185 : decode prog_21_method_7_code 185 = .ok (.iload_n 0, 1) := by decide +kernel
theorem d1_186 : decode prog_21_method_7_code 186 = .ok (.ldc 84, 2) := by decide +kernel
theorem d1_188 : decode prog_21_method_7_code 188 = .ok (.if_icmp .gt 7, 3) := by decide +kernel
theorem d1_191 : decode prog_21_method_7_code 191 = .ok (.iconst 1, 1) := by decide +kernel
theorem d1_192 : decode prog_21_method_7_code 192 = .ok (.goto 4, 3) := by decide +kernel
theorem d1_195 : decode prog_21_method_7_code 195 = .ok (.iconst 0, 1) := by decide +kernel
theorem d1_196 : decode prog_21_method_7_code 196 = .ok (.ireturn, 1) := by decide +kernel
theorem pn_1 : plainName "com/example/sextant/sextant/rdf/BlankNode" = true := by first | (simp [plainName, overriddenIn]; done) | decide +kernel
theorem ef_1 (m : MethodId) (a : Int32) : entryFrame m #[(.int a)] 1 = mkF m 0 #[.val (.int a)] [] := by first | (simp [entryFrame, mkF, argsToLocals, Value.category]; done) | rfl
def Q1 (Z : State) (a : Int32) (h0 : Heap) (n0 : Nat) (v : Option Value) (h : Heap) (L : List Loc) : Prop := Fr n0 L ∧ h = h0 ∧ (∃ z : Int32, v = some (.int z) ∧ ((z.toInt = 1 ∧ isN a.toInt) ∨ (z.toInt = 0 ∧ ¬ isN a.toInt)))
set_option maxRecDepth 65536 in
set_option maxHeartbeats 40000000 in
theorem rm1 (l : Launch) (Z : State) (a0 : Array Value) (hw : ∀ d ∈ tables_1, d.before a0 Z = true) (ws : List Jvm.Cond) (a : Int32) (h0 : Heap) (n0 : Nat) (Zs : n0 ≤ h0.size) :
    MetFree l (⟨"com/example/sextant/sextant/rdf/BlankNode", "isNameStartChar", "(I)Z"⟩ : MethodName) (head1 (Jvm.Cond.code (⟨"com/example/sextant/sextant/rdf/BlankNode", "isNameStartChar", "(I)Z"⟩ : MethodName) prog_21_method_7_code 1 (some .boolean) :: ws) ({ frames := 0, cells := 0, slots := 0, locals := 0 } : Room)) (fun as' U => as' = #[(.int a)] ∧ Z.Warmed39 U.vm ∧ U.heap = h0) (fun _ _ _ _ _ => True) (fun _ U o U' => ∃ v L, o = .returned v ∧ Q1 Z a h0 n0 v U'.heap L ∧ FrameEnd U o U' L ({ frames := 0, cells := 0, slots := 0, locals := 0 } : Room).cells ({ frames := 0, cells := 0, slots := 0, locals := 0 } : Room).slots) := by
  refine MetFree.of_bodySF (plainFor_of_name pn_1) hisR ?_
  intro p e s m args below meth c s₁ Bd hml0 hP hK
  obtain ⟨rfl, hZ, hh⟩ := hP
  have hx := Bd.exec
  have hby := Bd.bytes
  have hml : c.maxLocals = 1 := hml0
  have hown : s.vm.findClass "com/example/sextant/sextant/rdf/BlankNode" = some m.cls := findClass_of_methodNamed Bd.named
  have hnm := (name_of_methodNamed Bd.named Bd.method).1
  have hlk : meth.locks = false := Bd.notSynchronized
  have X0 : Stand p l e ({ frames := 0, cells := 0, slots := 0, locals := 0 } : Room) s m #[(.int a)] below meth c s₁ [] 0 0 := Stand.of_body Bd
  have e0 : s₁.heap = h0 := by rw [← hh, Bd.state]; rfl
  have Nf := Fr.nil n0
  refine (?_ : Win p.tables e below (PostQ s (Q1 Z a h0 n0) ({ frames := 0, cells := 0, slots := 0, locals := 0 } : Room).cells ({ frames := 0, cells := 0, slots := 0, locals := 0 } : Room).slots) (s₁.setTop (entryFrame m #[(.int a)] 1)))
  rw [ef_1]
  show Win p.tables e below _ (s₁.setTop (mkF m 0 #[.val (.int a)] []))
  have J12 : (¬ (65 ≤ a.toInt ∧ a.toInt ≤ 90)) → Win p.tables e below (PostQ s (Q1 Z a h0 n0) ({ frames := 0, cells := 0, slots := 0, locals := 0 } : Room).cells ({ frames := 0, cells := 0, slots := 0, locals := 0 } : Room).slots) (s₁.setTop (mkF m 12 #[.val (.int a)] [])) := by
    intro  hJ12
    have J24 : (¬ (97 ≤ a.toInt ∧ a.toInt ≤ 122)) → Win p.tables e below (PostQ s (Q1 Z a h0 n0) ({ frames := 0, cells := 0, slots := 0, locals := 0 } : Room).cells ({ frames := 0, cells := 0, slots := 0, locals := 0 } : Room).slots) (s₁.setTop (mkF m 24 #[.val (.int a)] [])) := by
      intro  hJ24
      have J30 : (¬ (95 ≤ a.toInt ∧ a.toInt ≤ 95)) → Win p.tables e below (PostQ s (Q1 Z a h0 n0) ({ frames := 0, cells := 0, slots := 0, locals := 0 } : Room).cells ({ frames := 0, cells := 0, slots := 0, locals := 0 } : Room).slots) (s₁.setTop (mkF m 30 #[.val (.int a)] [])) := by
        intro  hJ30
        have J44 : (¬ (192 ≤ a.toInt ∧ a.toInt ≤ 214)) → Win p.tables e below (PostQ s (Q1 Z a h0 n0) ({ frames := 0, cells := 0, slots := 0, locals := 0 } : Room).cells ({ frames := 0, cells := 0, slots := 0, locals := 0 } : Room).slots) (s₁.setTop (mkF m 44 #[.val (.int a)] [])) := by
          intro  hJ44
          have J58 : (¬ (216 ≤ a.toInt ∧ a.toInt ≤ 246)) → Win p.tables e below (PostQ s (Q1 Z a h0 n0) ({ frames := 0, cells := 0, slots := 0, locals := 0 } : Room).cells ({ frames := 0, cells := 0, slots := 0, locals := 0 } : Room).slots) (s₁.setTop (mkF m 58 #[.val (.int a)] [])) := by
            intro  hJ58
            have J72 : (¬ (248 ≤ a.toInt ∧ a.toInt ≤ 767)) → Win p.tables e below (PostQ s (Q1 Z a h0 n0) ({ frames := 0, cells := 0, slots := 0, locals := 0 } : Room).cells ({ frames := 0, cells := 0, slots := 0, locals := 0 } : Room).slots) (s₁.setTop (mkF m 72 #[.val (.int a)] [])) := by
              intro  hJ72
              have J86 : (¬ (880 ≤ a.toInt ∧ a.toInt ≤ 893)) → Win p.tables e below (PostQ s (Q1 Z a h0 n0) ({ frames := 0, cells := 0, slots := 0, locals := 0 } : Room).cells ({ frames := 0, cells := 0, slots := 0, locals := 0 } : Room).slots) (s₁.setTop (mkF m 86 #[.val (.int a)] [])) := by
                intro  hJ86
                have J100 : (¬ (895 ≤ a.toInt ∧ a.toInt ≤ 8191)) → Win p.tables e below (PostQ s (Q1 Z a h0 n0) ({ frames := 0, cells := 0, slots := 0, locals := 0 } : Room).cells ({ frames := 0, cells := 0, slots := 0, locals := 0 } : Room).slots) (s₁.setTop (mkF m 100 #[.val (.int a)] [])) := by
                  intro  hJ100
                  have J114 : (¬ (8204 ≤ a.toInt ∧ a.toInt ≤ 8205)) → Win p.tables e below (PostQ s (Q1 Z a h0 n0) ({ frames := 0, cells := 0, slots := 0, locals := 0 } : Room).cells ({ frames := 0, cells := 0, slots := 0, locals := 0 } : Room).slots) (s₁.setTop (mkF m 114 #[.val (.int a)] [])) := by
                    intro  hJ114
                    have J128 : (¬ (8304 ≤ a.toInt ∧ a.toInt ≤ 8591)) → Win p.tables e below (PostQ s (Q1 Z a h0 n0) ({ frames := 0, cells := 0, slots := 0, locals := 0 } : Room).cells ({ frames := 0, cells := 0, slots := 0, locals := 0 } : Room).slots) (s₁.setTop (mkF m 128 #[.val (.int a)] [])) := by
                      intro  hJ128
                      have J142 : (¬ (11264 ≤ a.toInt ∧ a.toInt ≤ 12271)) → Win p.tables e below (PostQ s (Q1 Z a h0 n0) ({ frames := 0, cells := 0, slots := 0, locals := 0 } : Room).cells ({ frames := 0, cells := 0, slots := 0, locals := 0 } : Room).slots) (s₁.setTop (mkF m 142 #[.val (.int a)] [])) := by
                        intro  hJ142
                        have J155 : (¬ (12289 ≤ a.toInt ∧ a.toInt ≤ 55295)) → Win p.tables e below (PostQ s (Q1 Z a h0 n0) ({ frames := 0, cells := 0, slots := 0, locals := 0 } : Room).cells ({ frames := 0, cells := 0, slots := 0, locals := 0 } : Room).slots) (s₁.setTop (mkF m 155 #[.val (.int a)] [])) := by
                          intro  hJ155
                          have J167 : (¬ (63744 ≤ a.toInt ∧ a.toInt ≤ 64975)) → Win p.tables e below (PostQ s (Q1 Z a h0 n0) ({ frames := 0, cells := 0, slots := 0, locals := 0 } : Room).cells ({ frames := 0, cells := 0, slots := 0, locals := 0 } : Room).slots) (s₁.setTop (mkF m 167 #[.val (.int a)] [])) := by
                            intro  hJ167
                            have J179 : (¬ (65008 ≤ a.toInt ∧ a.toInt ≤ 65533)) → Win p.tables e below (PostQ s (Q1 Z a h0 n0) ({ frames := 0, cells := 0, slots := 0, locals := 0 } : Room).cells ({ frames := 0, cells := 0, slots := 0, locals := 0 } : Room).slots) (s₁.setTop (mkF m 179 #[.val (.int a)] [])) := by
                              intro  hJ179
                              refine s_iloadN (pc' := 180) X0.here hx (hb hby d1_179) rfl rfl ?_
                              refine Win.go (fun _ k => X0.ldcInt hx hown (mvT hZ (hw _ (List.mem_of_getElem? (i := 6) rfl))) (g := (mkF m 180 #[.val (.int a)] [(.int a)])) rfl (hb hby d1_180) _ k) ?_
                              show Win p.tables e below _ (s₁.setTop (mkF m 182 #[.val (.int a)] [(.int (65536 : Int32)), (.int a)]))
                              by_cases hc182 : (a).toInt < (65536 : Int)
                              · skip
                                refine s_icmpYes (pc' := 195) X0.here hx (hb hby d1_182) (tltI (x := a) (y := (65536 : Int32)) hc182).1 (by decide) (by decide) ?_
                                refine s_iconst (pc' := 196) (z := (0 : Int32)) X0.here hx (hb hby d1_195) rfl rfl ?_
                                refine winN X0 hx hlk e0 (t := .boolean) Bd.returns (by simp) (hb hby d1_196) (by decide) (by decide) (z' := (0 : Int32)) rfl ?_
                                refine ⟨Nf, rfl, _, rfl, Or.inr ⟨rfl, ?_⟩⟩
                                unfold isN
                                omega
                              · skip
                                refine s_icmpNo (pc' := 185) X0.here hx (hb hby d1_182) rfl (fltI (x := a) (y := (65536 : Int32)) hc182).1 ?_
                                refine s_iloadN (pc' := 186) X0.here hx (hb hby d1_185) rfl rfl ?_
                                refine Win.go (fun _ k => X0.ldcInt hx hown (mvT hZ (hw _ (List.mem_of_getElem? (i := 15) rfl))) (g := (mkF m 186 #[.val (.int a)] [(.int a)])) rfl (hb hby d1_186) _ k) ?_
                                show Win p.tables e below _ (s₁.setTop (mkF m 188 #[.val (.int a)] [(.int (983039 : Int32)), (.int a)]))
                                by_cases hc188 : (983039 : Int) < (a).toInt
                                · skip
                                  refine s_icmpYes (pc' := 195) X0.here hx (hb hby d1_188) (tltI (x := (983039 : Int32)) (y := a) hc188).2.2.1 (by decide) (by decide) ?_
                                  refine s_iconst (pc' := 196) (z := (0 : Int32)) X0.here hx (hb hby d1_195) rfl rfl ?_
                                  refine winN X0 hx hlk e0 (t := .boolean) Bd.returns (by simp) (hb hby d1_196) (by decide) (by decide) (z' := (0 : Int32)) rfl ?_
                                  refine ⟨Nf, rfl, _, rfl, Or.inr ⟨rfl, ?_⟩⟩
                                  unfold isN
                                  omega
                                · skip
                                  refine s_icmpNo (pc' := 191) X0.here hx (hb hby d1_188) rfl (fltI (x := (983039 : Int32)) (y := a) hc188).2.2.1 ?_
                                  refine s_iconst (pc' := 192) (z := (1 : Int32)) X0.here hx (hb hby d1_191) rfl rfl ?_
                                  refine s_goto (pc' := 196) X0.here hx (hb hby d1_192) (by decide) (by decide) ?_
                                  refine winN X0 hx hlk e0 (t := .boolean) Bd.returns (by simp) (hb hby d1_196) (by decide) (by decide) (z' := (1 : Int32)) rfl ?_
                                  refine ⟨Nf, rfl, _, rfl, Or.inl ⟨rfl, ?_⟩⟩
                                  unfold isN
                                  omega
                            refine s_iloadN (pc' := 168) X0.here hx (hb hby d1_167) rfl rfl ?_
                            refine Win.go (fun _ k => X0.ldcInt hx hown (mvT hZ (hw _ (List.mem_of_getElem? (i := 5) rfl))) (g := (mkF m 168 #[.val (.int a)] [(.int a)])) rfl (hb hby d1_168) _ k) ?_
                            show Win p.tables e below _ (s₁.setTop (mkF m 170 #[.val (.int a)] [(.int (65008 : Int32)), (.int a)]))
                            by_cases hc170 : (a).toInt < (65008 : Int)
                            · skip
                              refine s_icmpYes (pc' := 179) X0.here hx (hb hby d1_170) (tltI (x := a) (y := (65008 : Int32)) hc170).1 (by decide) (by decide) ?_
                              exact J179  (by omega)
                            · skip
                              refine s_icmpNo (pc' := 173) X0.here hx (hb hby d1_170) rfl (fltI (x := a) (y := (65008 : Int32)) hc170).1 ?_
                              refine s_iloadN (pc' := 174) X0.here hx (hb hby d1_173) rfl rfl ?_
                              refine Win.go (fun _ k => X0.ldcInt hx hown (mvT hZ (hw _ (List.mem_of_getElem? (i := 14) rfl))) (g := (mkF m 174 #[.val (.int a)] [(.int a)])) rfl (hb hby d1_174) _ k) ?_
                              show Win p.tables e below _ (s₁.setTop (mkF m 176 #[.val (.int a)] [(.int (65533 : Int32)), (.int a)]))
                              by_cases hc176 : (65533 : Int) < (a).toInt
                              · skip
                                refine s_icmpNo (pc' := 179) X0.here hx (hb hby d1_176) rfl (tltI (x := (65533 : Int32)) (y := a) hc176).2.2.2 ?_
                                exact J179  (by omega)
                              · skip
                                refine s_icmpYes (pc' := 191) X0.here hx (hb hby d1_176) (fltI (x := (65533 : Int32)) (y := a) hc176).2.2.2 (by decide) (by decide) ?_
                                refine s_iconst (pc' := 192) (z := (1 : Int32)) X0.here hx (hb hby d1_191) rfl rfl ?_
                                refine s_goto (pc' := 196) X0.here hx (hb hby d1_192) (by decide) (by decide) ?_
                                refine winN X0 hx hlk e0 (t := .boolean) Bd.returns (by simp) (hb hby d1_196) (by decide) (by decide) (z' := (1 : Int32)) rfl ?_
                                refine ⟨Nf, rfl, _, rfl, Or.inl ⟨rfl, ?_⟩⟩
                                unfold isN
                                omega
                          refine s_iloadN (pc' := 156) X0.here hx (hb hby d1_155) rfl rfl ?_
                          refine Win.go (fun _ k => X0.ldcInt hx hown (mvT hZ (hw _ (List.mem_of_getElem? (i := 4) rfl))) (g := (mkF m 156 #[.val (.int a)] [(.int a)])) rfl (hb hby d1_156) _ k) ?_
                          show Win p.tables e below _ (s₁.setTop (mkF m 158 #[.val (.int a)] [(.int (63744 : Int32)), (.int a)]))
                          by_cases hc158 : (a).toInt < (63744 : Int)
                          · skip
                            refine s_icmpYes (pc' := 167) X0.here hx (hb hby d1_158) (tltI (x := a) (y := (63744 : Int32)) hc158).1 (by decide) (by decide) ?_
                            exact J167  (by omega)
                          · skip
                            refine s_icmpNo (pc' := 161) X0.here hx (hb hby d1_158) rfl (fltI (x := a) (y := (63744 : Int32)) hc158).1 ?_
                            refine s_iloadN (pc' := 162) X0.here hx (hb hby d1_161) rfl rfl ?_
                            refine Win.go (fun _ k => X0.ldcInt hx hown (mvT hZ (hw _ (List.mem_of_getElem? (i := 13) rfl))) (g := (mkF m 162 #[.val (.int a)] [(.int a)])) rfl (hb hby d1_162) _ k) ?_
                            show Win p.tables e below _ (s₁.setTop (mkF m 164 #[.val (.int a)] [(.int (64975 : Int32)), (.int a)]))
                            by_cases hc164 : (64975 : Int) < (a).toInt
                            · skip
                              refine s_icmpNo (pc' := 167) X0.here hx (hb hby d1_164) rfl (tltI (x := (64975 : Int32)) (y := a) hc164).2.2.2 ?_
                              exact J167  (by omega)
                            · skip
                              refine s_icmpYes (pc' := 191) X0.here hx (hb hby d1_164) (fltI (x := (64975 : Int32)) (y := a) hc164).2.2.2 (by decide) (by decide) ?_
                              refine s_iconst (pc' := 192) (z := (1 : Int32)) X0.here hx (hb hby d1_191) rfl rfl ?_
                              refine s_goto (pc' := 196) X0.here hx (hb hby d1_192) (by decide) (by decide) ?_
                              refine winN X0 hx hlk e0 (t := .boolean) Bd.returns (by simp) (hb hby d1_196) (by decide) (by decide) (z' := (1 : Int32)) rfl ?_
                              refine ⟨Nf, rfl, _, rfl, Or.inl ⟨rfl, ?_⟩⟩
                              unfold isN
                              omega
                        refine s_iloadN (pc' := 143) X0.here hx (hb hby d1_142) rfl rfl ?_
                        refine s_sipush (pc' := 146) (z := (12289 : Int32)) X0.here hx (hb hby d1_143) rfl rfl ?_
                        by_cases hc146 : (a).toInt < (12289 : Int)
                        · skip
                          refine s_icmpYes (pc' := 155) X0.here hx (hb hby d1_146) (tltI (x := a) (y := (12289 : Int32)) hc146).1 (by decide) (by decide) ?_
                          exact J155  (by omega)
                        · skip
                          refine s_icmpNo (pc' := 149) X0.here hx (hb hby d1_146) rfl (fltI (x := a) (y := (12289 : Int32)) hc146).1 ?_
                          refine s_iloadN (pc' := 150) X0.here hx (hb hby d1_149) rfl rfl ?_
                          refine Win.go (fun _ k => X0.ldcInt hx hown (mvT hZ (hw _ (List.mem_of_getElem? (i := 12) rfl))) (g := (mkF m 150 #[.val (.int a)] [(.int a)])) rfl (hb hby d1_150) _ k) ?_
                          show Win p.tables e below _ (s₁.setTop (mkF m 152 #[.val (.int a)] [(.int (55295 : Int32)), (.int a)]))
                          by_cases hc152 : (55295 : Int) < (a).toInt
                          · skip
                            refine s_icmpNo (pc' := 155) X0.here hx (hb hby d1_152) rfl (tltI (x := (55295 : Int32)) (y := a) hc152).2.2.2 ?_
                            exact J155  (by omega)
                          · skip
                            refine s_icmpYes (pc' := 191) X0.here hx (hb hby d1_152) (fltI (x := (55295 : Int32)) (y := a) hc152).2.2.2 (by decide) (by decide) ?_
                            refine s_iconst (pc' := 192) (z := (1 : Int32)) X0.here hx (hb hby d1_191) rfl rfl ?_
                            refine s_goto (pc' := 196) X0.here hx (hb hby d1_192) (by decide) (by decide) ?_
                            refine winN X0 hx hlk e0 (t := .boolean) Bd.returns (by simp) (hb hby d1_196) (by decide) (by decide) (z' := (1 : Int32)) rfl ?_
                            refine ⟨Nf, rfl, _, rfl, Or.inl ⟨rfl, ?_⟩⟩
                            unfold isN
                            omega
                      refine s_iloadN (pc' := 129) X0.here hx (hb hby d1_128) rfl rfl ?_
                      refine s_sipush (pc' := 132) (z := (11264 : Int32)) X0.here hx (hb hby d1_129) rfl rfl ?_
                      by_cases hc132 : (a).toInt < (11264 : Int)
                      · skip
                        refine s_icmpYes (pc' := 142) X0.here hx (hb hby d1_132) (tltI (x := a) (y := (11264 : Int32)) hc132).1 (by decide) (by decide) ?_
                        exact J142  (by omega)
                      · skip
                        refine s_icmpNo (pc' := 135) X0.here hx (hb hby d1_132) rfl (fltI (x := a) (y := (11264 : Int32)) hc132).1 ?_
                        refine s_iloadN (pc' := 136) X0.here hx (hb hby d1_135) rfl rfl ?_
                        refine s_sipush (pc' := 139) (z := (12271 : Int32)) X0.here hx (hb hby d1_136) rfl rfl ?_
                        by_cases hc139 : (12271 : Int) < (a).toInt
                        · skip
                          refine s_icmpNo (pc' := 142) X0.here hx (hb hby d1_139) rfl (tltI (x := (12271 : Int32)) (y := a) hc139).2.2.2 ?_
                          exact J142  (by omega)
                        · skip
                          refine s_icmpYes (pc' := 191) X0.here hx (hb hby d1_139) (fltI (x := (12271 : Int32)) (y := a) hc139).2.2.2 (by decide) (by decide) ?_
                          refine s_iconst (pc' := 192) (z := (1 : Int32)) X0.here hx (hb hby d1_191) rfl rfl ?_
                          refine s_goto (pc' := 196) X0.here hx (hb hby d1_192) (by decide) (by decide) ?_
                          refine winN X0 hx hlk e0 (t := .boolean) Bd.returns (by simp) (hb hby d1_196) (by decide) (by decide) (z' := (1 : Int32)) rfl ?_
                          refine ⟨Nf, rfl, _, rfl, Or.inl ⟨rfl, ?_⟩⟩
                          unfold isN
                          omega
                    refine s_iloadN (pc' := 115) X0.here hx (hb hby d1_114) rfl rfl ?_
                    refine s_sipush (pc' := 118) (z := (8304 : Int32)) X0.here hx (hb hby d1_115) rfl rfl ?_
                    by_cases hc118 : (a).toInt < (8304 : Int)
                    · skip
                      refine s_icmpYes (pc' := 128) X0.here hx (hb hby d1_118) (tltI (x := a) (y := (8304 : Int32)) hc118).1 (by decide) (by decide) ?_
                      exact J128  (by omega)
                    · skip
                      refine s_icmpNo (pc' := 121) X0.here hx (hb hby d1_118) rfl (fltI (x := a) (y := (8304 : Int32)) hc118).1 ?_
                      refine s_iloadN (pc' := 122) X0.here hx (hb hby d1_121) rfl rfl ?_
                      refine s_sipush (pc' := 125) (z := (8591 : Int32)) X0.here hx (hb hby d1_122) rfl rfl ?_
                      by_cases hc125 : (8591 : Int) < (a).toInt
                      · skip
                        refine s_icmpNo (pc' := 128) X0.here hx (hb hby d1_125) rfl (tltI (x := (8591 : Int32)) (y := a) hc125).2.2.2 ?_
                        exact J128  (by omega)
                      · skip
                        refine s_icmpYes (pc' := 191) X0.here hx (hb hby d1_125) (fltI (x := (8591 : Int32)) (y := a) hc125).2.2.2 (by decide) (by decide) ?_
                        refine s_iconst (pc' := 192) (z := (1 : Int32)) X0.here hx (hb hby d1_191) rfl rfl ?_
                        refine s_goto (pc' := 196) X0.here hx (hb hby d1_192) (by decide) (by decide) ?_
                        refine winN X0 hx hlk e0 (t := .boolean) Bd.returns (by simp) (hb hby d1_196) (by decide) (by decide) (z' := (1 : Int32)) rfl ?_
                        refine ⟨Nf, rfl, _, rfl, Or.inl ⟨rfl, ?_⟩⟩
                        unfold isN
                        omega
                  refine s_iloadN (pc' := 101) X0.here hx (hb hby d1_100) rfl rfl ?_
                  refine s_sipush (pc' := 104) (z := (8204 : Int32)) X0.here hx (hb hby d1_101) rfl rfl ?_
                  by_cases hc104 : (a).toInt < (8204 : Int)
                  · skip
                    refine s_icmpYes (pc' := 114) X0.here hx (hb hby d1_104) (tltI (x := a) (y := (8204 : Int32)) hc104).1 (by decide) (by decide) ?_
                    exact J114  (by omega)
                  · skip
                    refine s_icmpNo (pc' := 107) X0.here hx (hb hby d1_104) rfl (fltI (x := a) (y := (8204 : Int32)) hc104).1 ?_
                    refine s_iloadN (pc' := 108) X0.here hx (hb hby d1_107) rfl rfl ?_
                    refine s_sipush (pc' := 111) (z := (8205 : Int32)) X0.here hx (hb hby d1_108) rfl rfl ?_
                    by_cases hc111 : (8205 : Int) < (a).toInt
                    · skip
                      refine s_icmpNo (pc' := 114) X0.here hx (hb hby d1_111) rfl (tltI (x := (8205 : Int32)) (y := a) hc111).2.2.2 ?_
                      exact J114  (by omega)
                    · skip
                      refine s_icmpYes (pc' := 191) X0.here hx (hb hby d1_111) (fltI (x := (8205 : Int32)) (y := a) hc111).2.2.2 (by decide) (by decide) ?_
                      refine s_iconst (pc' := 192) (z := (1 : Int32)) X0.here hx (hb hby d1_191) rfl rfl ?_
                      refine s_goto (pc' := 196) X0.here hx (hb hby d1_192) (by decide) (by decide) ?_
                      refine winN X0 hx hlk e0 (t := .boolean) Bd.returns (by simp) (hb hby d1_196) (by decide) (by decide) (z' := (1 : Int32)) rfl ?_
                      refine ⟨Nf, rfl, _, rfl, Or.inl ⟨rfl, ?_⟩⟩
                      unfold isN
                      omega
                refine s_iloadN (pc' := 87) X0.here hx (hb hby d1_86) rfl rfl ?_
                refine s_sipush (pc' := 90) (z := (895 : Int32)) X0.here hx (hb hby d1_87) rfl rfl ?_
                by_cases hc90 : (a).toInt < (895 : Int)
                · skip
                  refine s_icmpYes (pc' := 100) X0.here hx (hb hby d1_90) (tltI (x := a) (y := (895 : Int32)) hc90).1 (by decide) (by decide) ?_
                  exact J100  (by omega)
                · skip
                  refine s_icmpNo (pc' := 93) X0.here hx (hb hby d1_90) rfl (fltI (x := a) (y := (895 : Int32)) hc90).1 ?_
                  refine s_iloadN (pc' := 94) X0.here hx (hb hby d1_93) rfl rfl ?_
                  refine s_sipush (pc' := 97) (z := (8191 : Int32)) X0.here hx (hb hby d1_94) rfl rfl ?_
                  by_cases hc97 : (8191 : Int) < (a).toInt
                  · skip
                    refine s_icmpNo (pc' := 100) X0.here hx (hb hby d1_97) rfl (tltI (x := (8191 : Int32)) (y := a) hc97).2.2.2 ?_
                    exact J100  (by omega)
                  · skip
                    refine s_icmpYes (pc' := 191) X0.here hx (hb hby d1_97) (fltI (x := (8191 : Int32)) (y := a) hc97).2.2.2 (by decide) (by decide) ?_
                    refine s_iconst (pc' := 192) (z := (1 : Int32)) X0.here hx (hb hby d1_191) rfl rfl ?_
                    refine s_goto (pc' := 196) X0.here hx (hb hby d1_192) (by decide) (by decide) ?_
                    refine winN X0 hx hlk e0 (t := .boolean) Bd.returns (by simp) (hb hby d1_196) (by decide) (by decide) (z' := (1 : Int32)) rfl ?_
                    refine ⟨Nf, rfl, _, rfl, Or.inl ⟨rfl, ?_⟩⟩
                    unfold isN
                    omega
              refine s_iloadN (pc' := 73) X0.here hx (hb hby d1_72) rfl rfl ?_
              refine s_sipush (pc' := 76) (z := (880 : Int32)) X0.here hx (hb hby d1_73) rfl rfl ?_
              by_cases hc76 : (a).toInt < (880 : Int)
              · skip
                refine s_icmpYes (pc' := 86) X0.here hx (hb hby d1_76) (tltI (x := a) (y := (880 : Int32)) hc76).1 (by decide) (by decide) ?_
                exact J86  (by omega)
              · skip
                refine s_icmpNo (pc' := 79) X0.here hx (hb hby d1_76) rfl (fltI (x := a) (y := (880 : Int32)) hc76).1 ?_
                refine s_iloadN (pc' := 80) X0.here hx (hb hby d1_79) rfl rfl ?_
                refine s_sipush (pc' := 83) (z := (893 : Int32)) X0.here hx (hb hby d1_80) rfl rfl ?_
                by_cases hc83 : (893 : Int) < (a).toInt
                · skip
                  refine s_icmpNo (pc' := 86) X0.here hx (hb hby d1_83) rfl (tltI (x := (893 : Int32)) (y := a) hc83).2.2.2 ?_
                  exact J86  (by omega)
                · skip
                  refine s_icmpYes (pc' := 191) X0.here hx (hb hby d1_83) (fltI (x := (893 : Int32)) (y := a) hc83).2.2.2 (by decide) (by decide) ?_
                  refine s_iconst (pc' := 192) (z := (1 : Int32)) X0.here hx (hb hby d1_191) rfl rfl ?_
                  refine s_goto (pc' := 196) X0.here hx (hb hby d1_192) (by decide) (by decide) ?_
                  refine winN X0 hx hlk e0 (t := .boolean) Bd.returns (by simp) (hb hby d1_196) (by decide) (by decide) (z' := (1 : Int32)) rfl ?_
                  refine ⟨Nf, rfl, _, rfl, Or.inl ⟨rfl, ?_⟩⟩
                  unfold isN
                  omega
            refine s_iloadN (pc' := 59) X0.here hx (hb hby d1_58) rfl rfl ?_
            refine s_sipush (pc' := 62) (z := (248 : Int32)) X0.here hx (hb hby d1_59) rfl rfl ?_
            by_cases hc62 : (a).toInt < (248 : Int)
            · skip
              refine s_icmpYes (pc' := 72) X0.here hx (hb hby d1_62) (tltI (x := a) (y := (248 : Int32)) hc62).1 (by decide) (by decide) ?_
              exact J72  (by omega)
            · skip
              refine s_icmpNo (pc' := 65) X0.here hx (hb hby d1_62) rfl (fltI (x := a) (y := (248 : Int32)) hc62).1 ?_
              refine s_iloadN (pc' := 66) X0.here hx (hb hby d1_65) rfl rfl ?_
              refine s_sipush (pc' := 69) (z := (767 : Int32)) X0.here hx (hb hby d1_66) rfl rfl ?_
              by_cases hc69 : (767 : Int) < (a).toInt
              · skip
                refine s_icmpNo (pc' := 72) X0.here hx (hb hby d1_69) rfl (tltI (x := (767 : Int32)) (y := a) hc69).2.2.2 ?_
                exact J72  (by omega)
              · skip
                refine s_icmpYes (pc' := 191) X0.here hx (hb hby d1_69) (fltI (x := (767 : Int32)) (y := a) hc69).2.2.2 (by decide) (by decide) ?_
                refine s_iconst (pc' := 192) (z := (1 : Int32)) X0.here hx (hb hby d1_191) rfl rfl ?_
                refine s_goto (pc' := 196) X0.here hx (hb hby d1_192) (by decide) (by decide) ?_
                refine winN X0 hx hlk e0 (t := .boolean) Bd.returns (by simp) (hb hby d1_196) (by decide) (by decide) (z' := (1 : Int32)) rfl ?_
                refine ⟨Nf, rfl, _, rfl, Or.inl ⟨rfl, ?_⟩⟩
                unfold isN
                omega
          refine s_iloadN (pc' := 45) X0.here hx (hb hby d1_44) rfl rfl ?_
          refine s_sipush (pc' := 48) (z := (216 : Int32)) X0.here hx (hb hby d1_45) rfl rfl ?_
          by_cases hc48 : (a).toInt < (216 : Int)
          · skip
            refine s_icmpYes (pc' := 58) X0.here hx (hb hby d1_48) (tltI (x := a) (y := (216 : Int32)) hc48).1 (by decide) (by decide) ?_
            exact J58  (by omega)
          · skip
            refine s_icmpNo (pc' := 51) X0.here hx (hb hby d1_48) rfl (fltI (x := a) (y := (216 : Int32)) hc48).1 ?_
            refine s_iloadN (pc' := 52) X0.here hx (hb hby d1_51) rfl rfl ?_
            refine s_sipush (pc' := 55) (z := (246 : Int32)) X0.here hx (hb hby d1_52) rfl rfl ?_
            by_cases hc55 : (246 : Int) < (a).toInt
            · skip
              refine s_icmpNo (pc' := 58) X0.here hx (hb hby d1_55) rfl (tltI (x := (246 : Int32)) (y := a) hc55).2.2.2 ?_
              exact J58  (by omega)
            · skip
              refine s_icmpYes (pc' := 191) X0.here hx (hb hby d1_55) (fltI (x := (246 : Int32)) (y := a) hc55).2.2.2 (by decide) (by decide) ?_
              refine s_iconst (pc' := 192) (z := (1 : Int32)) X0.here hx (hb hby d1_191) rfl rfl ?_
              refine s_goto (pc' := 196) X0.here hx (hb hby d1_192) (by decide) (by decide) ?_
              refine winN X0 hx hlk e0 (t := .boolean) Bd.returns (by simp) (hb hby d1_196) (by decide) (by decide) (z' := (1 : Int32)) rfl ?_
              refine ⟨Nf, rfl, _, rfl, Or.inl ⟨rfl, ?_⟩⟩
              unfold isN
              omega
        refine s_iloadN (pc' := 31) X0.here hx (hb hby d1_30) rfl rfl ?_
        refine s_sipush (pc' := 34) (z := (192 : Int32)) X0.here hx (hb hby d1_31) rfl rfl ?_
        by_cases hc34 : (a).toInt < (192 : Int)
        · skip
          refine s_icmpYes (pc' := 44) X0.here hx (hb hby d1_34) (tltI (x := a) (y := (192 : Int32)) hc34).1 (by decide) (by decide) ?_
          exact J44  (by omega)
        · skip
          refine s_icmpNo (pc' := 37) X0.here hx (hb hby d1_34) rfl (fltI (x := a) (y := (192 : Int32)) hc34).1 ?_
          refine s_iloadN (pc' := 38) X0.here hx (hb hby d1_37) rfl rfl ?_
          refine s_sipush (pc' := 41) (z := (214 : Int32)) X0.here hx (hb hby d1_38) rfl rfl ?_
          by_cases hc41 : (214 : Int) < (a).toInt
          · skip
            refine s_icmpNo (pc' := 44) X0.here hx (hb hby d1_41) rfl (tltI (x := (214 : Int32)) (y := a) hc41).2.2.2 ?_
            exact J44  (by omega)
          · skip
            refine s_icmpYes (pc' := 191) X0.here hx (hb hby d1_41) (fltI (x := (214 : Int32)) (y := a) hc41).2.2.2 (by decide) (by decide) ?_
            refine s_iconst (pc' := 192) (z := (1 : Int32)) X0.here hx (hb hby d1_191) rfl rfl ?_
            refine s_goto (pc' := 196) X0.here hx (hb hby d1_192) (by decide) (by decide) ?_
            refine winN X0 hx hlk e0 (t := .boolean) Bd.returns (by simp) (hb hby d1_196) (by decide) (by decide) (z' := (1 : Int32)) rfl ?_
            refine ⟨Nf, rfl, _, rfl, Or.inl ⟨rfl, ?_⟩⟩
            unfold isN
            omega
      refine s_iloadN (pc' := 25) X0.here hx (hb hby d1_24) rfl rfl ?_
      refine s_bipush (pc' := 27) (z := (95 : Int32)) X0.here hx (hb hby d1_25) rfl rfl ?_
      by_cases hc27 : (a).toInt = (95 : Int)
      · skip
        refine s_icmpYes (pc' := 191) X0.here hx (hb hby d1_27) (teqI (x := a) (y := (95 : Int32)) hc27).1 (by decide) (by decide) ?_
        refine s_iconst (pc' := 192) (z := (1 : Int32)) X0.here hx (hb hby d1_191) rfl rfl ?_
        refine s_goto (pc' := 196) X0.here hx (hb hby d1_192) (by decide) (by decide) ?_
        refine winN X0 hx hlk e0 (t := .boolean) Bd.returns (by simp) (hb hby d1_196) (by decide) (by decide) (z' := (1 : Int32)) rfl ?_
        refine ⟨Nf, rfl, _, rfl, Or.inl ⟨rfl, ?_⟩⟩
        unfold isN
        omega
      · skip
        refine s_icmpNo (pc' := 30) X0.here hx (hb hby d1_27) rfl (feqI (x := a) (y := (95 : Int32)) hc27).1 ?_
        exact J30  (by omega)
    refine s_iloadN (pc' := 13) X0.here hx (hb hby d1_12) rfl rfl ?_
    refine s_bipush (pc' := 15) (z := (97 : Int32)) X0.here hx (hb hby d1_13) rfl rfl ?_
    by_cases hc15 : (a).toInt < (97 : Int)
    · skip
      refine s_icmpYes (pc' := 24) X0.here hx (hb hby d1_15) (tltI (x := a) (y := (97 : Int32)) hc15).1 (by decide) (by decide) ?_
      exact J24  (by omega)
    · skip
      refine s_icmpNo (pc' := 18) X0.here hx (hb hby d1_15) rfl (fltI (x := a) (y := (97 : Int32)) hc15).1 ?_
      refine s_iloadN (pc' := 19) X0.here hx (hb hby d1_18) rfl rfl ?_
      refine s_bipush (pc' := 21) (z := (122 : Int32)) X0.here hx (hb hby d1_19) rfl rfl ?_
      by_cases hc21 : (122 : Int) < (a).toInt
      · skip
        refine s_icmpNo (pc' := 24) X0.here hx (hb hby d1_21) rfl (tltI (x := (122 : Int32)) (y := a) hc21).2.2.2 ?_
        exact J24  (by omega)
      · skip
        refine s_icmpYes (pc' := 191) X0.here hx (hb hby d1_21) (fltI (x := (122 : Int32)) (y := a) hc21).2.2.2 (by decide) (by decide) ?_
        refine s_iconst (pc' := 192) (z := (1 : Int32)) X0.here hx (hb hby d1_191) rfl rfl ?_
        refine s_goto (pc' := 196) X0.here hx (hb hby d1_192) (by decide) (by decide) ?_
        refine winN X0 hx hlk e0 (t := .boolean) Bd.returns (by simp) (hb hby d1_196) (by decide) (by decide) (z' := (1 : Int32)) rfl ?_
        refine ⟨Nf, rfl, _, rfl, Or.inl ⟨rfl, ?_⟩⟩
        unfold isN
        omega
  refine s_iloadN (pc' := 1) X0.here hx (hb hby d1_0) rfl rfl ?_
  refine s_bipush (pc' := 3) (z := (65 : Int32)) X0.here hx (hb hby d1_1) rfl rfl ?_
  by_cases hc3 : (a).toInt < (65 : Int)
  · skip
    refine s_icmpYes (pc' := 12) X0.here hx (hb hby d1_3) (tltI (x := a) (y := (65 : Int32)) hc3).1 (by decide) (by decide) ?_
    exact J12  (by omega)
  · skip
    refine s_icmpNo (pc' := 6) X0.here hx (hb hby d1_3) rfl (fltI (x := a) (y := (65 : Int32)) hc3).1 ?_
    refine s_iloadN (pc' := 7) X0.here hx (hb hby d1_6) rfl rfl ?_
    refine s_bipush (pc' := 9) (z := (90 : Int32)) X0.here hx (hb hby d1_7) rfl rfl ?_
    by_cases hc9 : (90 : Int) < (a).toInt
    · skip
      refine s_icmpNo (pc' := 12) X0.here hx (hb hby d1_9) rfl (tltI (x := (90 : Int32)) (y := a) hc9).2.2.2 ?_
      exact J12  (by omega)
    · skip
      refine s_icmpYes (pc' := 191) X0.here hx (hb hby d1_9) (fltI (x := (90 : Int32)) (y := a) hc9).2.2.2 (by decide) (by decide) ?_
      refine s_iconst (pc' := 192) (z := (1 : Int32)) X0.here hx (hb hby d1_191) rfl rfl ?_
      refine s_goto (pc' := 196) X0.here hx (hb hby d1_192) (by decide) (by decide) ?_
      refine winN X0 hx hlk e0 (t := .boolean) Bd.returns (by simp) (hb hby d1_196) (by decide) (by decide) (z' := (1 : Int32)) rfl ?_
      refine ⟨Nf, rfl, _, rfl, Or.inl ⟨rfl, ?_⟩⟩
      unfold isN
      omega
theorem d2_0 : decode method_3_code 0 = .ok (.iload_n 0, 1) := by decide +kernel
theorem d2_1 : decode method_3_code 1 = .ok (.bipush 65, 2) := by decide +kernel
theorem d2_3 : decode method_3_code 3 = .ok (.if_icmp .lt 9, 3) := by decide +kernel
theorem d2_6 : decode method_3_code 6 = .ok (.iload_n 0, 1) := by decide +kernel
theorem d2_7 : decode method_3_code 7 = .ok (.ldc 18, 2) := by decide +kernel
theorem d2_9 : decode method_3_code 9 = .ok (.if_icmp .le 5, 3) := by decide +kernel
theorem d2_12 : decode method_3_code 12 = .ok (.iconst 1, 1) := by decide +kernel
theorem d2_13 : decode method_3_code 13 = .ok (.ireturn, 1) := by decide +kernel
theorem d2_14 : decode method_3_code 14 = .ok (.iload_n 0, 1) := by decide +kernel
theorem d2_15 : decode method_3_code 15 = .ok (.bipush 127, 2) := by decide +kernel
theorem d2_17 : decode method_3_code 17 = .ok (.if_icmp .gt 33, 3) := by decide +kernel
theorem d2_20 : decode method_3_code 20 = .ok (.iload_n 0, 1) := by decide +kernel
theorem d2_21 : decode method_3_code 21 = .ok (.bipush 90, 2) := by decide +kernel
theorem d2_23 : decode method_3_code 23 = .ok (.if_icmp .le 15, 3) := by decide +kernel
theorem d2_26 : decode method_3_code 26 = .ok (.iload_n 0, 1) := by decide +kernel
theorem d2_27 : decode method_3_code 27 = .ok (.bipush 97, 2) := by decide +kernel
theorem d2_29 : decode method_3_code 29 = .ok (.if_icmp .ge 9, 3) := by decide +kernel
theorem d2_32 : decode method_3_code 32 = .ok (.iload_n 0, 1) := by decide +kernel
theorem d2_33 : decode method_3_code 33 = .ok (.bipush 95, 2) := by decide +kernel
theorem d2_35 : decode method_3_code 35 = .ok (.if_icmp .ne 9, 3) := by decide +kernel
theorem d2_38 : decode method_3_code 38 = .ok (.iload_n 0, 1) := by decide +kernel
theorem d2_39 : decode method_3_code 39 = .ok (.bipush 122, 2) := by decide +kernel
theorem d2_41 : decode method_3_code 41 = .ok (.if_icmp .le 7, 3) := by decide +kernel
theorem d2_44 : decode method_3_code 44 = .ok (.iconst 1, 1) := by decide +kernel
theorem d2_45 : decode method_3_code 45 = .ok (.goto 4, 3) := by decide +kernel
theorem d2_48 : decode method_3_code 48 = .ok (.iconst 0, 1) := by decide +kernel
theorem d2_49 : decode method_3_code 49 = .ok (.ireturn, 1) := by decide +kernel
theorem d2_50 : decode method_3_code 50 = .ok (.iload_n 0, 1) := by decide +kernel
theorem d2_51 : decode method_3_code 51 = .ok (.sipush 255, 3) := by decide +kernel
theorem d2_54 : decode method_3_code 54 = .ok (.if_icmp .gt 30, 3) := by decide +kernel
theorem d2_57 : decode method_3_code 57 = .ok (.iload_n 0, 1) := by decide +kernel
theorem d2_58 : decode method_3_code 58 = .ok (.sipush 192, 3) := by decide +kernel
theorem d2_61 : decode method_3_code 61 = .ok (.if_icmp .lt 17, 3) := by decide +kernel
theorem d2_64 : decode method_3_code 64 = .ok (.iload_n 0, 1) := by decide +kernel
theorem d2_65 : decode method_3_code 65 = .ok (.sipush 215, 3) := by decide +kernel
theorem d2_68 : decode method_3_code 68 = .ok (.if_icmp .eq 10, 3) := by decide +kernel
theorem d2_71 : decode method_3_code 71 = .ok (.iload_n 0, 1) := by decide +kernel
theorem d2_72 : decode method_3_code 72 = .ok (.sipush 247, 3) := by decide +kernel
theorem d2_75 : decode method_3_code 75 = .ok (.if_icmp .ne 7, 3) := by decide +kernel
theorem d2_78 : decode method_3_code 78 = .ok (.iconst 1, 1) := by decide +kernel
theorem d2_79 : decode method_3_code 79 = .ok (.goto 4, 3) := by decide +kernel
theorem d2_82 : decode method_3_code 82 = .ok (.iconst 0, 1) := by decide +kernel
theorem d2_83 : decode method_3_code 83 = .ok (.ireturn, 1) := by decide +kernel
theorem d2_84 : decode method_3_code 84 = .ok (.iload_n 0, 1) := by decide +kernel
theorem d2_85 : decode method_3_code 85 = .ok (.sipush 1023, 3) := by decide +kernel
theorem d2_88 : decode method_3_code 88 = .ok (.if_icmp .gt 30, 3) := by decide +kernel
theorem d2_91 : decode method_3_code 91 = .ok (.iload_n 0, 1) := by decide +kernel
theorem d2_92 : decode method_3_code 92 = .ok (.sipush 768, 3) := by decide +kernel
theorem d2_95 : decode method_3_code 95 = .ok (.if_icmp .lt 10, 3) := by decide +kernel
theorem d2_98 : decode method_3_code 98 = .ok (.iload_n 0, 1) := by decide +kernel
theorem d2_99 : decode method_3_code 99 = .ok (.sipush 879, 3) := by decide +kernel
theorem d2_102 : decode method_3_code 102 = .ok (.if_icmp .le 10, 3) := by decide +kernel
theorem d2_105 : decode method_3_code 105 = .ok (.iload_n 0, 1) := by decide +kernel
theorem d2_106 : decode method_3_code 106 = .ok (.sipush 894, 3) := by decide +kernel
theorem d2_109 : decode method_3_code 109 = .ok (.if_icmp .ne 7, 3) := by decide +kernel
theorem d2_112 : decode method_3_code 112 = .ok (.iconst 1, 1) := by decide +kernel
theorem d2_113 : decode method_3_code 113 = .ok (.goto 4, 3) := by decide +kernel
theorem d2_116 : decode method_3_code 116 = .ok (.iconst 0, 1) := by decide +kernel
theorem d2_117 : decode method_3_code 117 = .ok (.ireturn, 1) := by decide +kernel
theorem d2_118 : decode method_3_code 118 = .ok (.iload_n 0, 1) := by decide +kernel
theorem d2_119 : decode method_3_code 119 = .ok (.sipush 8191, 3) := by decide +kernel
theorem d2_122 : decode method_3_code 122 = .ok (.if_icmp .gt 5, 3) := by decide +kernel
theorem d2_125 : decode method_3_code 125 = .ok (.iconst 0, 1) := by decide +kernel
theorem d2_126 : decode method_3_code 126 = .ok (.ireturn, 1) := by decide +kernel
theorem d2_127 : decode method_3_code 127 = .ok (.iload_n 0, 1) := by decide +kernel
theorem d2_128 : decode method_3_code 128 = .ok (.sipush 12287, 3) := by decide +kernel
theorem d2_131 : decode method_3_code 131 = .ok (.if_icmp .gt 51, 3) := by decide +kernel
theorem d2_134 : decode method_3_code 134 = .ok (.iload_n 0, 1) := by decide +kernel
theorem d2_135 : decode method_3_code 135 = .ok (.sipush 8203, 3) := by decide +kernel
theorem d2_138 : decode method_3_code 138 = .ok (.if_icmp .le 38, 3) := by decide +kernel
theorem d2_141 : decode method_3_code 141 = .ok (.iload_n 0, 1) := by decide +kernel
theorem d2_142 : decode method_3_code 142 = .ok (.sipush 8206, 3) := by decide +kernel
theorem d2_145 : decode method_3_code 145 = .ok (.if_icmp .lt 10, 3) := by decide +kernel
theorem d2_148 : decode method_3_code 148 = .ok (.iload_n 0, 1) := by decide +kernel
theorem d2_149 : decode method_3_code 149 = .ok (.sipush 8303, 3) := by decide +kernel
theorem d2_152 : decode method_3_code 152 = .ok (.if_icmp .le 24, 3) := by decide +kernel
theorem d2_155 : decode method_3_code 155 = .ok (.iload_n 0, 1) := by decide +kernel
theorem d2_156 : decode method_3_code 156 = .ok (.sipush 8592, 3) := by decide +kernel
theorem d2_159 : decode method_3_code 159 = .ok (.if_icmp .lt 10, 3) := by decide +kernel
theorem d2_162 : decode method_3_code 162 = .ok (.iload_n 0, 1) := by decide +kernel
theorem d2_163 : decode method_3_code 163 = .ok (.sipush 11263, 3) := by decide +kernel
theorem d2_166 : decode method_3_code 166 = .ok (.if_icmp .le 10, 3) := by decide +kernel
theorem d2_169 : decode method_3_code 169 = .ok (.iload_n 0, 1) := by decide +kernel
theorem d2_170 : decode method_3_code 170 = .ok (.sipush 12272, 3) := by decide +kernel
theorem d2_173 : decode method_3_code 173 = .ok (.if_icmp .lt 7, 3) := by decide +kernel
theorem d2_176 : decode method_3_code 176 = .ok (.iconst 1, 1) := by decide +kernel
theorem d2_177 : decode method_3_code 177 = .ok (.goto 4, 3) := by decide +kernel
theorem d2_180 : decode method_3_code 180 = .ok (.iconst 0, 1) := by decide +kernel
theorem d2_181 : decode method_3_code 181 = .ok (.ireturn, 1) := by decide +kernel
theorem d2_182 : decode method_3_code 182 = .ok (.iload_n 0, 1) := by decide +kernel
theorem d2_183 : decode method_3_code 183 = .ok (.ldc 19, 2) := by decide +kernel
theorem d2_185 : decode method_3_code 185 = .ok (.if_icmp .gt 46, 3) := by decide +kernel
theorem d2_188 : decode method_3_code 188 = .ok (.iload_n 0, 1) := by decide +kernel
theorem d2_189 : decode method_3_code 189 = .ok (.sipush 12288, 3) := by decide +kernel
theorem d2_192 : decode method_3_code 192 = .ok (.if_icmp .eq 33, 3) := by decide +kernel
theorem d2_195 : decode method_3_code 195 = .ok (.iload_n 0, 1) := by decide +kernel
theorem d2_196 : decode method_3_code 196 = .ok (.ldc 20, 2) := by decide +kernel
theorem d2_198 : decode method_3_code 198 = .ok (.if_icmp .lt 9, 3) := by decide +kernel
theorem d2_201 : decode method_3_code 201 = .ok (.iload_n 0, 1) := by decide +kernel
theorem d2_202 : decode method_3_code 202 = .ok (.ldc 21, 2) := by decide +kernel
theorem d2_204 : decode method_3_code 204 = .ok (.if_icmp .le 21, 3) := by decide +kernel
theorem d2_207 : decode method_3_code 207 = .ok (.iload_n 0, 1) := by decide +kernel
theorem d2_208 : decode method_3_code 208 = .ok (.ldc 22, 2) := by decide +kernel
theorem d2_210 : decode method_3_code 210 = .ok (.if_icmp .lt 9, 3) := by decide +kernel
theorem d2_213 : decode method_3_code 213 = .ok (.iload_n 0, 1) := by decide +kernel
theorem d2_214 : decode method_3_code 214 = .ok (.ldc 23, 2) := by decide +kernel
theorem d2_216 : decode method_3_code 216 = .ok (.if_icmp .le 9, 3) := by decide +kernel
theorem d2_219 : decode method_3_code 219 = .ok (.iload_n 0, 1) := by decide +kernel
theorem d2_220 : decode method_3_code 220 = .ok (.ldc 24, 2) := by decide +kernel
theorem d2_222 : decode method_3_code 222 = .ok (.if_icmp .lt 7, 3) := by decide +kernel
theorem d2_225 : decode method_3_code 225 = .ok (.iconst 1, 1) := by decide +kernel
theorem d2_226 : decode method_3_code 226 = .ok (.goto 4, 3) := by decide +kernel
theorem d2_229 : decode method_3_code 229 = .ok (.iconst 0, 1) := by decide +kernel
theorem d2_230 : decode method_3_code 230 = .ok (.ireturn, 1) := by decide +kernel
theorem d2_231 : decode method_3_code 231 = .ok (.iconst 0, 1) := by decide +kernel
theorem d2_232 : decode method_3_code 232 = .ok (.ireturn, 1) := by decide +kernel
theorem pn_2 : plainName "com/example/sextant/sextant/rdf/BlankNodeIsNameStartCharPinLaw" = true := by first | (simp [plainName, overriddenIn]; done) | decide +kernel
theorem ef_2 (m : MethodId) (a : Int32) : entryFrame m #[(.int a)] 1 = mkF m 0 #[.val (.int a)] [] := by first | (simp [entryFrame, mkF, argsToLocals, Value.category]; done) | rfl
def Q2 (Z : State) (a : Int32) (h0 : Heap) (n0 : Nat) (v : Option Value) (h : Heap) (L : List Loc) : Prop := Fr n0 L ∧ h = h0 ∧ (∃ z : Int32, v = some (.int z) ∧ ((z.toInt = 1 ∧ exc a.toInt) ∨ (z.toInt = 0 ∧ ¬ exc a.toInt)))
set_option maxRecDepth 65536 in
set_option maxHeartbeats 40000000 in
theorem rm2 (l : Launch) (Z : State) (a0 : Array Value) (hw : ∀ d ∈ tables_1, d.before a0 Z = true) (ws : List Jvm.Cond) (a : Int32) (h0 : Heap) (n0 : Nat) (Zs : n0 ≤ h0.size) :
    MetFree l (⟨"com/example/sextant/sextant/rdf/BlankNodeIsNameStartCharPinLaw", "excluded", "(I)Z"⟩ : MethodName) (head1 (Jvm.Cond.code (⟨"com/example/sextant/sextant/rdf/BlankNodeIsNameStartCharPinLaw", "excluded", "(I)Z"⟩ : MethodName) method_3_code 1 (some .boolean) :: ws) ({ frames := 0, cells := 0, slots := 0, locals := 0 } : Room)) (fun as' U => as' = #[(.int a)] ∧ Z.Warmed39 U.vm ∧ U.heap = h0) (fun _ _ _ _ _ => True) (fun _ U o U' => ∃ v L, o = .returned v ∧ Q2 Z a h0 n0 v U'.heap L ∧ FrameEnd U o U' L ({ frames := 0, cells := 0, slots := 0, locals := 0 } : Room).cells ({ frames := 0, cells := 0, slots := 0, locals := 0 } : Room).slots) := by
  refine MetFree.of_bodySF (plainFor_of_name pn_2) hisR ?_
  intro p e s m args below meth c s₁ Bd hml0 hP hK
  obtain ⟨rfl, hZ, hh⟩ := hP
  have hx := Bd.exec
  have hby := Bd.bytes
  have hml : c.maxLocals = 1 := hml0
  have hown : s.vm.findClass "com/example/sextant/sextant/rdf/BlankNodeIsNameStartCharPinLaw" = some m.cls := findClass_of_methodNamed Bd.named
  have hnm := (name_of_methodNamed Bd.named Bd.method).1
  have hlk : meth.locks = false := Bd.notSynchronized
  have X0 : Stand p l e ({ frames := 0, cells := 0, slots := 0, locals := 0 } : Room) s m #[(.int a)] below meth c s₁ [] 0 0 := Stand.of_body Bd
  have e0 : s₁.heap = h0 := by rw [← hh, Bd.state]; rfl
  have Nf := Fr.nil n0
  refine (?_ : Win p.tables e below (PostQ s (Q2 Z a h0 n0) ({ frames := 0, cells := 0, slots := 0, locals := 0 } : Room).cells ({ frames := 0, cells := 0, slots := 0, locals := 0 } : Room).slots) (s₁.setTop (entryFrame m #[(.int a)] 1)))
  rw [ef_2]
  show Win p.tables e below _ (s₁.setTop (mkF m 0 #[.val (.int a)] []))
  refine s_iloadN (pc' := 1) X0.here hx (hb hby d2_0) rfl rfl ?_
  refine s_bipush (pc' := 3) (z := (65 : Int32)) X0.here hx (hb hby d2_1) rfl rfl ?_
  by_cases hc3 : (a).toInt < (65 : Int)
  · skip
    refine s_icmpYes (pc' := 12) X0.here hx (hb hby d2_3) (tltI (x := a) (y := (65 : Int32)) hc3).1 (by decide) (by decide) ?_
    refine s_iconst (pc' := 13) (z := (1 : Int32)) X0.here hx (hb hby d2_12) rfl rfl ?_
    refine winN X0 hx hlk e0 (t := .boolean) Bd.returns (by simp) (hb hby d2_13) (by decide) (by decide) (z' := (1 : Int32)) rfl ?_
    refine ⟨Nf, rfl, _, rfl, Or.inl ⟨rfl, ?_⟩⟩
    unfold exc
    omega
  · skip
    refine s_icmpNo (pc' := 6) X0.here hx (hb hby d2_3) rfl (fltI (x := a) (y := (65 : Int32)) hc3).1 ?_
    refine s_iloadN (pc' := 7) X0.here hx (hb hby d2_6) rfl rfl ?_
    refine Win.go (fun _ k => X0.ldcInt hx hown (mvT hZ (hw _ (List.mem_of_getElem? (i := 11) rfl))) (g := (mkF m 7 #[.val (.int a)] [(.int a)])) rfl (hb hby d2_7) _ k) ?_
    show Win p.tables e below _ (s₁.setTop (mkF m 9 #[.val (.int a)] [(.int (983039 : Int32)), (.int a)]))
    by_cases hc9 : (983039 : Int) < (a).toInt
    · skip
      refine s_icmpNo (pc' := 12) X0.here hx (hb hby d2_9) rfl (tltI (x := (983039 : Int32)) (y := a) hc9).2.2.2 ?_
      refine s_iconst (pc' := 13) (z := (1 : Int32)) X0.here hx (hb hby d2_12) rfl rfl ?_
      refine winN X0 hx hlk e0 (t := .boolean) Bd.returns (by simp) (hb hby d2_13) (by decide) (by decide) (z' := (1 : Int32)) rfl ?_
      refine ⟨Nf, rfl, _, rfl, Or.inl ⟨rfl, ?_⟩⟩
      unfold exc
      omega
    · skip
      refine s_icmpYes (pc' := 14) X0.here hx (hb hby d2_9) (fltI (x := (983039 : Int32)) (y := a) hc9).2.2.2 (by decide) (by decide) ?_
      refine s_iloadN (pc' := 15) X0.here hx (hb hby d2_14) rfl rfl ?_
      refine s_bipush (pc' := 17) (z := (127 : Int32)) X0.here hx (hb hby d2_15) rfl rfl ?_
      by_cases hc17 : (127 : Int) < (a).toInt
      · skip
        refine s_icmpYes (pc' := 50) X0.here hx (hb hby d2_17) (tltI (x := (127 : Int32)) (y := a) hc17).2.2.1 (by decide) (by decide) ?_
        refine s_iloadN (pc' := 51) X0.here hx (hb hby d2_50) rfl rfl ?_
        refine s_sipush (pc' := 54) (z := (255 : Int32)) X0.here hx (hb hby d2_51) rfl rfl ?_
        by_cases hc54 : (255 : Int) < (a).toInt
        · skip
          refine s_icmpYes (pc' := 84) X0.here hx (hb hby d2_54) (tltI (x := (255 : Int32)) (y := a) hc54).2.2.1 (by decide) (by decide) ?_
          refine s_iloadN (pc' := 85) X0.here hx (hb hby d2_84) rfl rfl ?_
          refine s_sipush (pc' := 88) (z := (1023 : Int32)) X0.here hx (hb hby d2_85) rfl rfl ?_
          by_cases hc88 : (1023 : Int) < (a).toInt
          · skip
            refine s_icmpYes (pc' := 118) X0.here hx (hb hby d2_88) (tltI (x := (1023 : Int32)) (y := a) hc88).2.2.1 (by decide) (by decide) ?_
            refine s_iloadN (pc' := 119) X0.here hx (hb hby d2_118) rfl rfl ?_
            refine s_sipush (pc' := 122) (z := (8191 : Int32)) X0.here hx (hb hby d2_119) rfl rfl ?_
            by_cases hc122 : (8191 : Int) < (a).toInt
            · skip
              refine s_icmpYes (pc' := 127) X0.here hx (hb hby d2_122) (tltI (x := (8191 : Int32)) (y := a) hc122).2.2.1 (by decide) (by decide) ?_
              refine s_iloadN (pc' := 128) X0.here hx (hb hby d2_127) rfl rfl ?_
              refine s_sipush (pc' := 131) (z := (12287 : Int32)) X0.here hx (hb hby d2_128) rfl rfl ?_
              by_cases hc131 : (12287 : Int) < (a).toInt
              · skip
                refine s_icmpYes (pc' := 182) X0.here hx (hb hby d2_131) (tltI (x := (12287 : Int32)) (y := a) hc131).2.2.1 (by decide) (by decide) ?_
                refine s_iloadN (pc' := 183) X0.here hx (hb hby d2_182) rfl rfl ?_
                refine Win.go (fun _ k => X0.ldcInt hx hown (mvT hZ (hw _ (List.mem_of_getElem? (i := 16) rfl))) (g := (mkF m 183 #[.val (.int a)] [(.int a)])) rfl (hb hby d2_183) _ k) ?_
                show Win p.tables e below _ (s₁.setTop (mkF m 185 #[.val (.int a)] [(.int (65535 : Int32)), (.int a)]))
                by_cases hc185 : (65535 : Int) < (a).toInt
                · skip
                  refine s_icmpYes (pc' := 231) X0.here hx (hb hby d2_185) (tltI (x := (65535 : Int32)) (y := a) hc185).2.2.1 (by decide) (by decide) ?_
                  refine s_iconst (pc' := 232) (z := (0 : Int32)) X0.here hx (hb hby d2_231) rfl rfl ?_
                  refine winN X0 hx hlk e0 (t := .boolean) Bd.returns (by simp) (hb hby d2_232) (by decide) (by decide) (z' := (0 : Int32)) rfl ?_
                  refine ⟨Nf, rfl, _, rfl, Or.inr ⟨rfl, ?_⟩⟩
                  unfold exc
                  omega
                · skip
                  refine s_icmpNo (pc' := 188) X0.here hx (hb hby d2_185) rfl (fltI (x := (65535 : Int32)) (y := a) hc185).2.2.1 ?_
                  refine s_iloadN (pc' := 189) X0.here hx (hb hby d2_188) rfl rfl ?_
                  refine s_sipush (pc' := 192) (z := (12288 : Int32)) X0.here hx (hb hby d2_189) rfl rfl ?_
                  by_cases hc192 : (a).toInt = (12288 : Int)
                  · skip
                    refine s_icmpYes (pc' := 225) X0.here hx (hb hby d2_192) (teqI (x := a) (y := (12288 : Int32)) hc192).1 (by decide) (by decide) ?_
                    refine s_iconst (pc' := 226) (z := (1 : Int32)) X0.here hx (hb hby d2_225) rfl rfl ?_
                    refine s_goto (pc' := 230) X0.here hx (hb hby d2_226) (by decide) (by decide) ?_
                    refine winN X0 hx hlk e0 (t := .boolean) Bd.returns (by simp) (hb hby d2_230) (by decide) (by decide) (z' := (1 : Int32)) rfl ?_
                    refine ⟨Nf, rfl, _, rfl, Or.inl ⟨rfl, ?_⟩⟩
                    unfold exc
                    omega
                  · skip
                    refine s_icmpNo (pc' := 195) X0.here hx (hb hby d2_192) rfl (feqI (x := a) (y := (12288 : Int32)) hc192).1 ?_
                    refine s_iloadN (pc' := 196) X0.here hx (hb hby d2_195) rfl rfl ?_
                    refine Win.go (fun _ k => X0.ldcInt hx hown (mvT hZ (hw _ (List.mem_of_getElem? (i := 17) rfl))) (g := (mkF m 196 #[.val (.int a)] [(.int a)])) rfl (hb hby d2_196) _ k) ?_
                    show Win p.tables e below _ (s₁.setTop (mkF m 198 #[.val (.int a)] [(.int (55296 : Int32)), (.int a)]))
                    by_cases hc198 : (a).toInt < (55296 : Int)
                    · skip
                      refine s_icmpYes (pc' := 207) X0.here hx (hb hby d2_198) (tltI (x := a) (y := (55296 : Int32)) hc198).1 (by decide) (by decide) ?_
                      refine s_iloadN (pc' := 208) X0.here hx (hb hby d2_207) rfl rfl ?_
                      refine Win.go (fun _ k => X0.ldcInt hx hown (mvT hZ (hw _ (List.mem_of_getElem? (i := 19) rfl))) (g := (mkF m 208 #[.val (.int a)] [(.int a)])) rfl (hb hby d2_208) _ k) ?_
                      show Win p.tables e below _ (s₁.setTop (mkF m 210 #[.val (.int a)] [(.int (64976 : Int32)), (.int a)]))
                      by_cases hc210 : (a).toInt < (64976 : Int)
                      · skip
                        refine s_icmpYes (pc' := 219) X0.here hx (hb hby d2_210) (tltI (x := a) (y := (64976 : Int32)) hc210).1 (by decide) (by decide) ?_
                        refine s_iloadN (pc' := 220) X0.here hx (hb hby d2_219) rfl rfl ?_
                        refine Win.go (fun _ k => X0.ldcInt hx hown (mvT hZ (hw _ (List.mem_of_getElem? (i := 21) rfl))) (g := (mkF m 220 #[.val (.int a)] [(.int a)])) rfl (hb hby d2_220) _ k) ?_
                        show Win p.tables e below _ (s₁.setTop (mkF m 222 #[.val (.int a)] [(.int (65534 : Int32)), (.int a)]))
                        by_cases hc222 : (a).toInt < (65534 : Int)
                        · skip
                          refine s_icmpYes (pc' := 229) X0.here hx (hb hby d2_222) (tltI (x := a) (y := (65534 : Int32)) hc222).1 (by decide) (by decide) ?_
                          refine s_iconst (pc' := 230) (z := (0 : Int32)) X0.here hx (hb hby d2_229) rfl rfl ?_
                          refine winN X0 hx hlk e0 (t := .boolean) Bd.returns (by simp) (hb hby d2_230) (by decide) (by decide) (z' := (0 : Int32)) rfl ?_
                          refine ⟨Nf, rfl, _, rfl, Or.inr ⟨rfl, ?_⟩⟩
                          unfold exc
                          omega
                        · skip
                          refine s_icmpNo (pc' := 225) X0.here hx (hb hby d2_222) rfl (fltI (x := a) (y := (65534 : Int32)) hc222).1 ?_
                          refine s_iconst (pc' := 226) (z := (1 : Int32)) X0.here hx (hb hby d2_225) rfl rfl ?_
                          refine s_goto (pc' := 230) X0.here hx (hb hby d2_226) (by decide) (by decide) ?_
                          refine winN X0 hx hlk e0 (t := .boolean) Bd.returns (by simp) (hb hby d2_230) (by decide) (by decide) (z' := (1 : Int32)) rfl ?_
                          refine ⟨Nf, rfl, _, rfl, Or.inl ⟨rfl, ?_⟩⟩
                          unfold exc
                          omega
                      · skip
                        refine s_icmpNo (pc' := 213) X0.here hx (hb hby d2_210) rfl (fltI (x := a) (y := (64976 : Int32)) hc210).1 ?_
                        refine s_iloadN (pc' := 214) X0.here hx (hb hby d2_213) rfl rfl ?_
                        refine Win.go (fun _ k => X0.ldcInt hx hown (mvT hZ (hw _ (List.mem_of_getElem? (i := 20) rfl))) (g := (mkF m 214 #[.val (.int a)] [(.int a)])) rfl (hb hby d2_214) _ k) ?_
                        show Win p.tables e below _ (s₁.setTop (mkF m 216 #[.val (.int a)] [(.int (65007 : Int32)), (.int a)]))
                        by_cases hc216 : (65007 : Int) < (a).toInt
                        · skip
                          refine s_icmpNo (pc' := 219) X0.here hx (hb hby d2_216) rfl (tltI (x := (65007 : Int32)) (y := a) hc216).2.2.2 ?_
                          refine s_iloadN (pc' := 220) X0.here hx (hb hby d2_219) rfl rfl ?_
                          refine Win.go (fun _ k => X0.ldcInt hx hown (mvT hZ (hw _ (List.mem_of_getElem? (i := 21) rfl))) (g := (mkF m 220 #[.val (.int a)] [(.int a)])) rfl (hb hby d2_220) _ k) ?_
                          show Win p.tables e below _ (s₁.setTop (mkF m 222 #[.val (.int a)] [(.int (65534 : Int32)), (.int a)]))
                          by_cases hc222 : (a).toInt < (65534 : Int)
                          · skip
                            refine s_icmpYes (pc' := 229) X0.here hx (hb hby d2_222) (tltI (x := a) (y := (65534 : Int32)) hc222).1 (by decide) (by decide) ?_
                            refine s_iconst (pc' := 230) (z := (0 : Int32)) X0.here hx (hb hby d2_229) rfl rfl ?_
                            refine winN X0 hx hlk e0 (t := .boolean) Bd.returns (by simp) (hb hby d2_230) (by decide) (by decide) (z' := (0 : Int32)) rfl ?_
                            refine ⟨Nf, rfl, _, rfl, Or.inr ⟨rfl, ?_⟩⟩
                            unfold exc
                            omega
                          · skip
                            refine s_icmpNo (pc' := 225) X0.here hx (hb hby d2_222) rfl (fltI (x := a) (y := (65534 : Int32)) hc222).1 ?_
                            refine s_iconst (pc' := 226) (z := (1 : Int32)) X0.here hx (hb hby d2_225) rfl rfl ?_
                            refine s_goto (pc' := 230) X0.here hx (hb hby d2_226) (by decide) (by decide) ?_
                            refine winN X0 hx hlk e0 (t := .boolean) Bd.returns (by simp) (hb hby d2_230) (by decide) (by decide) (z' := (1 : Int32)) rfl ?_
                            refine ⟨Nf, rfl, _, rfl, Or.inl ⟨rfl, ?_⟩⟩
                            unfold exc
                            omega
                        · skip
                          refine s_icmpYes (pc' := 225) X0.here hx (hb hby d2_216) (fltI (x := (65007 : Int32)) (y := a) hc216).2.2.2 (by decide) (by decide) ?_
                          refine s_iconst (pc' := 226) (z := (1 : Int32)) X0.here hx (hb hby d2_225) rfl rfl ?_
                          refine s_goto (pc' := 230) X0.here hx (hb hby d2_226) (by decide) (by decide) ?_
                          refine winN X0 hx hlk e0 (t := .boolean) Bd.returns (by simp) (hb hby d2_230) (by decide) (by decide) (z' := (1 : Int32)) rfl ?_
                          refine ⟨Nf, rfl, _, rfl, Or.inl ⟨rfl, ?_⟩⟩
                          unfold exc
                          omega
                    · skip
                      refine s_icmpNo (pc' := 201) X0.here hx (hb hby d2_198) rfl (fltI (x := a) (y := (55296 : Int32)) hc198).1 ?_
                      refine s_iloadN (pc' := 202) X0.here hx (hb hby d2_201) rfl rfl ?_
                      refine Win.go (fun _ k => X0.ldcInt hx hown (mvT hZ (hw _ (List.mem_of_getElem? (i := 18) rfl))) (g := (mkF m 202 #[.val (.int a)] [(.int a)])) rfl (hb hby d2_202) _ k) ?_
                      show Win p.tables e below _ (s₁.setTop (mkF m 204 #[.val (.int a)] [(.int (63743 : Int32)), (.int a)]))
                      by_cases hc204 : (63743 : Int) < (a).toInt
                      · skip
                        refine s_icmpNo (pc' := 207) X0.here hx (hb hby d2_204) rfl (tltI (x := (63743 : Int32)) (y := a) hc204).2.2.2 ?_
                        refine s_iloadN (pc' := 208) X0.here hx (hb hby d2_207) rfl rfl ?_
                        refine Win.go (fun _ k => X0.ldcInt hx hown (mvT hZ (hw _ (List.mem_of_getElem? (i := 19) rfl))) (g := (mkF m 208 #[.val (.int a)] [(.int a)])) rfl (hb hby d2_208) _ k) ?_
                        show Win p.tables e below _ (s₁.setTop (mkF m 210 #[.val (.int a)] [(.int (64976 : Int32)), (.int a)]))
                        by_cases hc210 : (a).toInt < (64976 : Int)
                        · skip
                          refine s_icmpYes (pc' := 219) X0.here hx (hb hby d2_210) (tltI (x := a) (y := (64976 : Int32)) hc210).1 (by decide) (by decide) ?_
                          refine s_iloadN (pc' := 220) X0.here hx (hb hby d2_219) rfl rfl ?_
                          refine Win.go (fun _ k => X0.ldcInt hx hown (mvT hZ (hw _ (List.mem_of_getElem? (i := 21) rfl))) (g := (mkF m 220 #[.val (.int a)] [(.int a)])) rfl (hb hby d2_220) _ k) ?_
                          show Win p.tables e below _ (s₁.setTop (mkF m 222 #[.val (.int a)] [(.int (65534 : Int32)), (.int a)]))
                          by_cases hc222 : (a).toInt < (65534 : Int)
                          · skip
                            refine s_icmpYes (pc' := 229) X0.here hx (hb hby d2_222) (tltI (x := a) (y := (65534 : Int32)) hc222).1 (by decide) (by decide) ?_
                            refine s_iconst (pc' := 230) (z := (0 : Int32)) X0.here hx (hb hby d2_229) rfl rfl ?_
                            refine winN X0 hx hlk e0 (t := .boolean) Bd.returns (by simp) (hb hby d2_230) (by decide) (by decide) (z' := (0 : Int32)) rfl ?_
                            refine ⟨Nf, rfl, _, rfl, Or.inr ⟨rfl, ?_⟩⟩
                            unfold exc
                            omega
                          · skip
                            refine s_icmpNo (pc' := 225) X0.here hx (hb hby d2_222) rfl (fltI (x := a) (y := (65534 : Int32)) hc222).1 ?_
                            refine s_iconst (pc' := 226) (z := (1 : Int32)) X0.here hx (hb hby d2_225) rfl rfl ?_
                            refine s_goto (pc' := 230) X0.here hx (hb hby d2_226) (by decide) (by decide) ?_
                            refine winN X0 hx hlk e0 (t := .boolean) Bd.returns (by simp) (hb hby d2_230) (by decide) (by decide) (z' := (1 : Int32)) rfl ?_
                            refine ⟨Nf, rfl, _, rfl, Or.inl ⟨rfl, ?_⟩⟩
                            unfold exc
                            omega
                        · skip
                          refine s_icmpNo (pc' := 213) X0.here hx (hb hby d2_210) rfl (fltI (x := a) (y := (64976 : Int32)) hc210).1 ?_
                          refine s_iloadN (pc' := 214) X0.here hx (hb hby d2_213) rfl rfl ?_
                          refine Win.go (fun _ k => X0.ldcInt hx hown (mvT hZ (hw _ (List.mem_of_getElem? (i := 20) rfl))) (g := (mkF m 214 #[.val (.int a)] [(.int a)])) rfl (hb hby d2_214) _ k) ?_
                          show Win p.tables e below _ (s₁.setTop (mkF m 216 #[.val (.int a)] [(.int (65007 : Int32)), (.int a)]))
                          by_cases hc216 : (65007 : Int) < (a).toInt
                          · skip
                            refine s_icmpNo (pc' := 219) X0.here hx (hb hby d2_216) rfl (tltI (x := (65007 : Int32)) (y := a) hc216).2.2.2 ?_
                            refine s_iloadN (pc' := 220) X0.here hx (hb hby d2_219) rfl rfl ?_
                            refine Win.go (fun _ k => X0.ldcInt hx hown (mvT hZ (hw _ (List.mem_of_getElem? (i := 21) rfl))) (g := (mkF m 220 #[.val (.int a)] [(.int a)])) rfl (hb hby d2_220) _ k) ?_
                            show Win p.tables e below _ (s₁.setTop (mkF m 222 #[.val (.int a)] [(.int (65534 : Int32)), (.int a)]))
                            by_cases hc222 : (a).toInt < (65534 : Int)
                            · skip
                              refine s_icmpYes (pc' := 229) X0.here hx (hb hby d2_222) (tltI (x := a) (y := (65534 : Int32)) hc222).1 (by decide) (by decide) ?_
                              refine s_iconst (pc' := 230) (z := (0 : Int32)) X0.here hx (hb hby d2_229) rfl rfl ?_
                              refine winN X0 hx hlk e0 (t := .boolean) Bd.returns (by simp) (hb hby d2_230) (by decide) (by decide) (z' := (0 : Int32)) rfl ?_
                              refine ⟨Nf, rfl, _, rfl, Or.inr ⟨rfl, ?_⟩⟩
                              unfold exc
                              omega
                            · skip
                              refine s_icmpNo (pc' := 225) X0.here hx (hb hby d2_222) rfl (fltI (x := a) (y := (65534 : Int32)) hc222).1 ?_
                              refine s_iconst (pc' := 226) (z := (1 : Int32)) X0.here hx (hb hby d2_225) rfl rfl ?_
                              refine s_goto (pc' := 230) X0.here hx (hb hby d2_226) (by decide) (by decide) ?_
                              refine winN X0 hx hlk e0 (t := .boolean) Bd.returns (by simp) (hb hby d2_230) (by decide) (by decide) (z' := (1 : Int32)) rfl ?_
                              refine ⟨Nf, rfl, _, rfl, Or.inl ⟨rfl, ?_⟩⟩
                              unfold exc
                              omega
                          · skip
                            refine s_icmpYes (pc' := 225) X0.here hx (hb hby d2_216) (fltI (x := (65007 : Int32)) (y := a) hc216).2.2.2 (by decide) (by decide) ?_
                            refine s_iconst (pc' := 226) (z := (1 : Int32)) X0.here hx (hb hby d2_225) rfl rfl ?_
                            refine s_goto (pc' := 230) X0.here hx (hb hby d2_226) (by decide) (by decide) ?_
                            refine winN X0 hx hlk e0 (t := .boolean) Bd.returns (by simp) (hb hby d2_230) (by decide) (by decide) (z' := (1 : Int32)) rfl ?_
                            refine ⟨Nf, rfl, _, rfl, Or.inl ⟨rfl, ?_⟩⟩
                            unfold exc
                            omega
                      · skip
                        refine s_icmpYes (pc' := 225) X0.here hx (hb hby d2_204) (fltI (x := (63743 : Int32)) (y := a) hc204).2.2.2 (by decide) (by decide) ?_
                        refine s_iconst (pc' := 226) (z := (1 : Int32)) X0.here hx (hb hby d2_225) rfl rfl ?_
                        refine s_goto (pc' := 230) X0.here hx (hb hby d2_226) (by decide) (by decide) ?_
                        refine winN X0 hx hlk e0 (t := .boolean) Bd.returns (by simp) (hb hby d2_230) (by decide) (by decide) (z' := (1 : Int32)) rfl ?_
                        refine ⟨Nf, rfl, _, rfl, Or.inl ⟨rfl, ?_⟩⟩
                        unfold exc
                        omega
              · skip
                refine s_icmpNo (pc' := 134) X0.here hx (hb hby d2_131) rfl (fltI (x := (12287 : Int32)) (y := a) hc131).2.2.1 ?_
                refine s_iloadN (pc' := 135) X0.here hx (hb hby d2_134) rfl rfl ?_
                refine s_sipush (pc' := 138) (z := (8203 : Int32)) X0.here hx (hb hby d2_135) rfl rfl ?_
                by_cases hc138 : (8203 : Int) < (a).toInt
                · skip
                  refine s_icmpNo (pc' := 141) X0.here hx (hb hby d2_138) rfl (tltI (x := (8203 : Int32)) (y := a) hc138).2.2.2 ?_
                  refine s_iloadN (pc' := 142) X0.here hx (hb hby d2_141) rfl rfl ?_
                  refine s_sipush (pc' := 145) (z := (8206 : Int32)) X0.here hx (hb hby d2_142) rfl rfl ?_
                  by_cases hc145 : (a).toInt < (8206 : Int)
                  · skip
                    refine s_icmpYes (pc' := 155) X0.here hx (hb hby d2_145) (tltI (x := a) (y := (8206 : Int32)) hc145).1 (by decide) (by decide) ?_
                    refine s_iloadN (pc' := 156) X0.here hx (hb hby d2_155) rfl rfl ?_
                    refine s_sipush (pc' := 159) (z := (8592 : Int32)) X0.here hx (hb hby d2_156) rfl rfl ?_
                    by_cases hc159 : (a).toInt < (8592 : Int)
                    · skip
                      refine s_icmpYes (pc' := 169) X0.here hx (hb hby d2_159) (tltI (x := a) (y := (8592 : Int32)) hc159).1 (by decide) (by decide) ?_
                      refine s_iloadN (pc' := 170) X0.here hx (hb hby d2_169) rfl rfl ?_
                      refine s_sipush (pc' := 173) (z := (12272 : Int32)) X0.here hx (hb hby d2_170) rfl rfl ?_
                      by_cases hc173 : (a).toInt < (12272 : Int)
                      · skip
                        refine s_icmpYes (pc' := 180) X0.here hx (hb hby d2_173) (tltI (x := a) (y := (12272 : Int32)) hc173).1 (by decide) (by decide) ?_
                        refine s_iconst (pc' := 181) (z := (0 : Int32)) X0.here hx (hb hby d2_180) rfl rfl ?_
                        refine winN X0 hx hlk e0 (t := .boolean) Bd.returns (by simp) (hb hby d2_181) (by decide) (by decide) (z' := (0 : Int32)) rfl ?_
                        refine ⟨Nf, rfl, _, rfl, Or.inr ⟨rfl, ?_⟩⟩
                        unfold exc
                        omega
                      · skip
                        refine s_icmpNo (pc' := 176) X0.here hx (hb hby d2_173) rfl (fltI (x := a) (y := (12272 : Int32)) hc173).1 ?_
                        refine s_iconst (pc' := 177) (z := (1 : Int32)) X0.here hx (hb hby d2_176) rfl rfl ?_
                        refine s_goto (pc' := 181) X0.here hx (hb hby d2_177) (by decide) (by decide) ?_
                        refine winN X0 hx hlk e0 (t := .boolean) Bd.returns (by simp) (hb hby d2_181) (by decide) (by decide) (z' := (1 : Int32)) rfl ?_
                        refine ⟨Nf, rfl, _, rfl, Or.inl ⟨rfl, ?_⟩⟩
                        unfold exc
                        omega
                    · skip
                      refine s_icmpNo (pc' := 162) X0.here hx (hb hby d2_159) rfl (fltI (x := a) (y := (8592 : Int32)) hc159).1 ?_
                      refine s_iloadN (pc' := 163) X0.here hx (hb hby d2_162) rfl rfl ?_
                      refine s_sipush (pc' := 166) (z := (11263 : Int32)) X0.here hx (hb hby d2_163) rfl rfl ?_
                      by_cases hc166 : (11263 : Int) < (a).toInt
                      · skip
                        refine s_icmpNo (pc' := 169) X0.here hx (hb hby d2_166) rfl (tltI (x := (11263 : Int32)) (y := a) hc166).2.2.2 ?_
                        refine s_iloadN (pc' := 170) X0.here hx (hb hby d2_169) rfl rfl ?_
                        refine s_sipush (pc' := 173) (z := (12272 : Int32)) X0.here hx (hb hby d2_170) rfl rfl ?_
                        by_cases hc173 : (a).toInt < (12272 : Int)
                        · skip
                          refine s_icmpYes (pc' := 180) X0.here hx (hb hby d2_173) (tltI (x := a) (y := (12272 : Int32)) hc173).1 (by decide) (by decide) ?_
                          refine s_iconst (pc' := 181) (z := (0 : Int32)) X0.here hx (hb hby d2_180) rfl rfl ?_
                          refine winN X0 hx hlk e0 (t := .boolean) Bd.returns (by simp) (hb hby d2_181) (by decide) (by decide) (z' := (0 : Int32)) rfl ?_
                          refine ⟨Nf, rfl, _, rfl, Or.inr ⟨rfl, ?_⟩⟩
                          unfold exc
                          omega
                        · skip
                          refine s_icmpNo (pc' := 176) X0.here hx (hb hby d2_173) rfl (fltI (x := a) (y := (12272 : Int32)) hc173).1 ?_
                          refine s_iconst (pc' := 177) (z := (1 : Int32)) X0.here hx (hb hby d2_176) rfl rfl ?_
                          refine s_goto (pc' := 181) X0.here hx (hb hby d2_177) (by decide) (by decide) ?_
                          refine winN X0 hx hlk e0 (t := .boolean) Bd.returns (by simp) (hb hby d2_181) (by decide) (by decide) (z' := (1 : Int32)) rfl ?_
                          refine ⟨Nf, rfl, _, rfl, Or.inl ⟨rfl, ?_⟩⟩
                          unfold exc
                          omega
                      · skip
                        refine s_icmpYes (pc' := 176) X0.here hx (hb hby d2_166) (fltI (x := (11263 : Int32)) (y := a) hc166).2.2.2 (by decide) (by decide) ?_
                        refine s_iconst (pc' := 177) (z := (1 : Int32)) X0.here hx (hb hby d2_176) rfl rfl ?_
                        refine s_goto (pc' := 181) X0.here hx (hb hby d2_177) (by decide) (by decide) ?_
                        refine winN X0 hx hlk e0 (t := .boolean) Bd.returns (by simp) (hb hby d2_181) (by decide) (by decide) (z' := (1 : Int32)) rfl ?_
                        refine ⟨Nf, rfl, _, rfl, Or.inl ⟨rfl, ?_⟩⟩
                        unfold exc
                        omega
                  · skip
                    refine s_icmpNo (pc' := 148) X0.here hx (hb hby d2_145) rfl (fltI (x := a) (y := (8206 : Int32)) hc145).1 ?_
                    refine s_iloadN (pc' := 149) X0.here hx (hb hby d2_148) rfl rfl ?_
                    refine s_sipush (pc' := 152) (z := (8303 : Int32)) X0.here hx (hb hby d2_149) rfl rfl ?_
                    by_cases hc152 : (8303 : Int) < (a).toInt
                    · skip
                      refine s_icmpNo (pc' := 155) X0.here hx (hb hby d2_152) rfl (tltI (x := (8303 : Int32)) (y := a) hc152).2.2.2 ?_
                      refine s_iloadN (pc' := 156) X0.here hx (hb hby d2_155) rfl rfl ?_
                      refine s_sipush (pc' := 159) (z := (8592 : Int32)) X0.here hx (hb hby d2_156) rfl rfl ?_
                      by_cases hc159 : (a).toInt < (8592 : Int)
                      · skip
                        refine s_icmpYes (pc' := 169) X0.here hx (hb hby d2_159) (tltI (x := a) (y := (8592 : Int32)) hc159).1 (by decide) (by decide) ?_
                        refine s_iloadN (pc' := 170) X0.here hx (hb hby d2_169) rfl rfl ?_
                        refine s_sipush (pc' := 173) (z := (12272 : Int32)) X0.here hx (hb hby d2_170) rfl rfl ?_
                        by_cases hc173 : (a).toInt < (12272 : Int)
                        · skip
                          refine s_icmpYes (pc' := 180) X0.here hx (hb hby d2_173) (tltI (x := a) (y := (12272 : Int32)) hc173).1 (by decide) (by decide) ?_
                          refine s_iconst (pc' := 181) (z := (0 : Int32)) X0.here hx (hb hby d2_180) rfl rfl ?_
                          refine winN X0 hx hlk e0 (t := .boolean) Bd.returns (by simp) (hb hby d2_181) (by decide) (by decide) (z' := (0 : Int32)) rfl ?_
                          refine ⟨Nf, rfl, _, rfl, Or.inr ⟨rfl, ?_⟩⟩
                          unfold exc
                          omega
                        · skip
                          refine s_icmpNo (pc' := 176) X0.here hx (hb hby d2_173) rfl (fltI (x := a) (y := (12272 : Int32)) hc173).1 ?_
                          refine s_iconst (pc' := 177) (z := (1 : Int32)) X0.here hx (hb hby d2_176) rfl rfl ?_
                          refine s_goto (pc' := 181) X0.here hx (hb hby d2_177) (by decide) (by decide) ?_
                          refine winN X0 hx hlk e0 (t := .boolean) Bd.returns (by simp) (hb hby d2_181) (by decide) (by decide) (z' := (1 : Int32)) rfl ?_
                          refine ⟨Nf, rfl, _, rfl, Or.inl ⟨rfl, ?_⟩⟩
                          unfold exc
                          omega
                      · skip
                        refine s_icmpNo (pc' := 162) X0.here hx (hb hby d2_159) rfl (fltI (x := a) (y := (8592 : Int32)) hc159).1 ?_
                        refine s_iloadN (pc' := 163) X0.here hx (hb hby d2_162) rfl rfl ?_
                        refine s_sipush (pc' := 166) (z := (11263 : Int32)) X0.here hx (hb hby d2_163) rfl rfl ?_
                        by_cases hc166 : (11263 : Int) < (a).toInt
                        · skip
                          refine s_icmpNo (pc' := 169) X0.here hx (hb hby d2_166) rfl (tltI (x := (11263 : Int32)) (y := a) hc166).2.2.2 ?_
                          refine s_iloadN (pc' := 170) X0.here hx (hb hby d2_169) rfl rfl ?_
                          refine s_sipush (pc' := 173) (z := (12272 : Int32)) X0.here hx (hb hby d2_170) rfl rfl ?_
                          by_cases hc173 : (a).toInt < (12272 : Int)
                          · skip
                            refine s_icmpYes (pc' := 180) X0.here hx (hb hby d2_173) (tltI (x := a) (y := (12272 : Int32)) hc173).1 (by decide) (by decide) ?_
                            refine s_iconst (pc' := 181) (z := (0 : Int32)) X0.here hx (hb hby d2_180) rfl rfl ?_
                            refine winN X0 hx hlk e0 (t := .boolean) Bd.returns (by simp) (hb hby d2_181) (by decide) (by decide) (z' := (0 : Int32)) rfl ?_
                            refine ⟨Nf, rfl, _, rfl, Or.inr ⟨rfl, ?_⟩⟩
                            unfold exc
                            omega
                          · skip
                            refine s_icmpNo (pc' := 176) X0.here hx (hb hby d2_173) rfl (fltI (x := a) (y := (12272 : Int32)) hc173).1 ?_
                            refine s_iconst (pc' := 177) (z := (1 : Int32)) X0.here hx (hb hby d2_176) rfl rfl ?_
                            refine s_goto (pc' := 181) X0.here hx (hb hby d2_177) (by decide) (by decide) ?_
                            refine winN X0 hx hlk e0 (t := .boolean) Bd.returns (by simp) (hb hby d2_181) (by decide) (by decide) (z' := (1 : Int32)) rfl ?_
                            refine ⟨Nf, rfl, _, rfl, Or.inl ⟨rfl, ?_⟩⟩
                            unfold exc
                            omega
                        · skip
                          refine s_icmpYes (pc' := 176) X0.here hx (hb hby d2_166) (fltI (x := (11263 : Int32)) (y := a) hc166).2.2.2 (by decide) (by decide) ?_
                          refine s_iconst (pc' := 177) (z := (1 : Int32)) X0.here hx (hb hby d2_176) rfl rfl ?_
                          refine s_goto (pc' := 181) X0.here hx (hb hby d2_177) (by decide) (by decide) ?_
                          refine winN X0 hx hlk e0 (t := .boolean) Bd.returns (by simp) (hb hby d2_181) (by decide) (by decide) (z' := (1 : Int32)) rfl ?_
                          refine ⟨Nf, rfl, _, rfl, Or.inl ⟨rfl, ?_⟩⟩
                          unfold exc
                          omega
                    · skip
                      refine s_icmpYes (pc' := 176) X0.here hx (hb hby d2_152) (fltI (x := (8303 : Int32)) (y := a) hc152).2.2.2 (by decide) (by decide) ?_
                      refine s_iconst (pc' := 177) (z := (1 : Int32)) X0.here hx (hb hby d2_176) rfl rfl ?_
                      refine s_goto (pc' := 181) X0.here hx (hb hby d2_177) (by decide) (by decide) ?_
                      refine winN X0 hx hlk e0 (t := .boolean) Bd.returns (by simp) (hb hby d2_181) (by decide) (by decide) (z' := (1 : Int32)) rfl ?_
                      refine ⟨Nf, rfl, _, rfl, Or.inl ⟨rfl, ?_⟩⟩
                      unfold exc
                      omega
                · skip
                  refine s_icmpYes (pc' := 176) X0.here hx (hb hby d2_138) (fltI (x := (8203 : Int32)) (y := a) hc138).2.2.2 (by decide) (by decide) ?_
                  refine s_iconst (pc' := 177) (z := (1 : Int32)) X0.here hx (hb hby d2_176) rfl rfl ?_
                  refine s_goto (pc' := 181) X0.here hx (hb hby d2_177) (by decide) (by decide) ?_
                  refine winN X0 hx hlk e0 (t := .boolean) Bd.returns (by simp) (hb hby d2_181) (by decide) (by decide) (z' := (1 : Int32)) rfl ?_
                  refine ⟨Nf, rfl, _, rfl, Or.inl ⟨rfl, ?_⟩⟩
                  unfold exc
                  omega
            · skip
              refine s_icmpNo (pc' := 125) X0.here hx (hb hby d2_122) rfl (fltI (x := (8191 : Int32)) (y := a) hc122).2.2.1 ?_
              refine s_iconst (pc' := 126) (z := (0 : Int32)) X0.here hx (hb hby d2_125) rfl rfl ?_
              refine winN X0 hx hlk e0 (t := .boolean) Bd.returns (by simp) (hb hby d2_126) (by decide) (by decide) (z' := (0 : Int32)) rfl ?_
              refine ⟨Nf, rfl, _, rfl, Or.inr ⟨rfl, ?_⟩⟩
              unfold exc
              omega
          · skip
            refine s_icmpNo (pc' := 91) X0.here hx (hb hby d2_88) rfl (fltI (x := (1023 : Int32)) (y := a) hc88).2.2.1 ?_
            refine s_iloadN (pc' := 92) X0.here hx (hb hby d2_91) rfl rfl ?_
            refine s_sipush (pc' := 95) (z := (768 : Int32)) X0.here hx (hb hby d2_92) rfl rfl ?_
            by_cases hc95 : (a).toInt < (768 : Int)
            · skip
              refine s_icmpYes (pc' := 105) X0.here hx (hb hby d2_95) (tltI (x := a) (y := (768 : Int32)) hc95).1 (by decide) (by decide) ?_
              refine s_iloadN (pc' := 106) X0.here hx (hb hby d2_105) rfl rfl ?_
              refine s_sipush (pc' := 109) (z := (894 : Int32)) X0.here hx (hb hby d2_106) rfl rfl ?_
              by_cases hc109 : (a).toInt = (894 : Int)
              · skip
                refine s_icmpNo (pc' := 112) X0.here hx (hb hby d2_109) rfl (teqI (x := a) (y := (894 : Int32)) hc109).2 ?_
                refine s_iconst (pc' := 113) (z := (1 : Int32)) X0.here hx (hb hby d2_112) rfl rfl ?_
                refine s_goto (pc' := 117) X0.here hx (hb hby d2_113) (by decide) (by decide) ?_
                refine winN X0 hx hlk e0 (t := .boolean) Bd.returns (by simp) (hb hby d2_117) (by decide) (by decide) (z' := (1 : Int32)) rfl ?_
                refine ⟨Nf, rfl, _, rfl, Or.inl ⟨rfl, ?_⟩⟩
                unfold exc
                omega
              · skip
                refine s_icmpYes (pc' := 116) X0.here hx (hb hby d2_109) (feqI (x := a) (y := (894 : Int32)) hc109).2 (by decide) (by decide) ?_
                refine s_iconst (pc' := 117) (z := (0 : Int32)) X0.here hx (hb hby d2_116) rfl rfl ?_
                refine winN X0 hx hlk e0 (t := .boolean) Bd.returns (by simp) (hb hby d2_117) (by decide) (by decide) (z' := (0 : Int32)) rfl ?_
                refine ⟨Nf, rfl, _, rfl, Or.inr ⟨rfl, ?_⟩⟩
                unfold exc
                omega
            · skip
              refine s_icmpNo (pc' := 98) X0.here hx (hb hby d2_95) rfl (fltI (x := a) (y := (768 : Int32)) hc95).1 ?_
              refine s_iloadN (pc' := 99) X0.here hx (hb hby d2_98) rfl rfl ?_
              refine s_sipush (pc' := 102) (z := (879 : Int32)) X0.here hx (hb hby d2_99) rfl rfl ?_
              by_cases hc102 : (879 : Int) < (a).toInt
              · skip
                refine s_icmpNo (pc' := 105) X0.here hx (hb hby d2_102) rfl (tltI (x := (879 : Int32)) (y := a) hc102).2.2.2 ?_
                refine s_iloadN (pc' := 106) X0.here hx (hb hby d2_105) rfl rfl ?_
                refine s_sipush (pc' := 109) (z := (894 : Int32)) X0.here hx (hb hby d2_106) rfl rfl ?_
                by_cases hc109 : (a).toInt = (894 : Int)
                · skip
                  refine s_icmpNo (pc' := 112) X0.here hx (hb hby d2_109) rfl (teqI (x := a) (y := (894 : Int32)) hc109).2 ?_
                  refine s_iconst (pc' := 113) (z := (1 : Int32)) X0.here hx (hb hby d2_112) rfl rfl ?_
                  refine s_goto (pc' := 117) X0.here hx (hb hby d2_113) (by decide) (by decide) ?_
                  refine winN X0 hx hlk e0 (t := .boolean) Bd.returns (by simp) (hb hby d2_117) (by decide) (by decide) (z' := (1 : Int32)) rfl ?_
                  refine ⟨Nf, rfl, _, rfl, Or.inl ⟨rfl, ?_⟩⟩
                  unfold exc
                  omega
                · skip
                  refine s_icmpYes (pc' := 116) X0.here hx (hb hby d2_109) (feqI (x := a) (y := (894 : Int32)) hc109).2 (by decide) (by decide) ?_
                  refine s_iconst (pc' := 117) (z := (0 : Int32)) X0.here hx (hb hby d2_116) rfl rfl ?_
                  refine winN X0 hx hlk e0 (t := .boolean) Bd.returns (by simp) (hb hby d2_117) (by decide) (by decide) (z' := (0 : Int32)) rfl ?_
                  refine ⟨Nf, rfl, _, rfl, Or.inr ⟨rfl, ?_⟩⟩
                  unfold exc
                  omega
              · skip
                refine s_icmpYes (pc' := 112) X0.here hx (hb hby d2_102) (fltI (x := (879 : Int32)) (y := a) hc102).2.2.2 (by decide) (by decide) ?_
                refine s_iconst (pc' := 113) (z := (1 : Int32)) X0.here hx (hb hby d2_112) rfl rfl ?_
                refine s_goto (pc' := 117) X0.here hx (hb hby d2_113) (by decide) (by decide) ?_
                refine winN X0 hx hlk e0 (t := .boolean) Bd.returns (by simp) (hb hby d2_117) (by decide) (by decide) (z' := (1 : Int32)) rfl ?_
                refine ⟨Nf, rfl, _, rfl, Or.inl ⟨rfl, ?_⟩⟩
                unfold exc
                omega
        · skip
          refine s_icmpNo (pc' := 57) X0.here hx (hb hby d2_54) rfl (fltI (x := (255 : Int32)) (y := a) hc54).2.2.1 ?_
          refine s_iloadN (pc' := 58) X0.here hx (hb hby d2_57) rfl rfl ?_
          refine s_sipush (pc' := 61) (z := (192 : Int32)) X0.here hx (hb hby d2_58) rfl rfl ?_
          by_cases hc61 : (a).toInt < (192 : Int)
          · skip
            refine s_icmpYes (pc' := 78) X0.here hx (hb hby d2_61) (tltI (x := a) (y := (192 : Int32)) hc61).1 (by decide) (by decide) ?_
            refine s_iconst (pc' := 79) (z := (1 : Int32)) X0.here hx (hb hby d2_78) rfl rfl ?_
            refine s_goto (pc' := 83) X0.here hx (hb hby d2_79) (by decide) (by decide) ?_
            refine winN X0 hx hlk e0 (t := .boolean) Bd.returns (by simp) (hb hby d2_83) (by decide) (by decide) (z' := (1 : Int32)) rfl ?_
            refine ⟨Nf, rfl, _, rfl, Or.inl ⟨rfl, ?_⟩⟩
            unfold exc
            omega
          · skip
            refine s_icmpNo (pc' := 64) X0.here hx (hb hby d2_61) rfl (fltI (x := a) (y := (192 : Int32)) hc61).1 ?_
            refine s_iloadN (pc' := 65) X0.here hx (hb hby d2_64) rfl rfl ?_
            refine s_sipush (pc' := 68) (z := (215 : Int32)) X0.here hx (hb hby d2_65) rfl rfl ?_
            by_cases hc68 : (a).toInt = (215 : Int)
            · skip
              refine s_icmpYes (pc' := 78) X0.here hx (hb hby d2_68) (teqI (x := a) (y := (215 : Int32)) hc68).1 (by decide) (by decide) ?_
              refine s_iconst (pc' := 79) (z := (1 : Int32)) X0.here hx (hb hby d2_78) rfl rfl ?_
              refine s_goto (pc' := 83) X0.here hx (hb hby d2_79) (by decide) (by decide) ?_
              refine winN X0 hx hlk e0 (t := .boolean) Bd.returns (by simp) (hb hby d2_83) (by decide) (by decide) (z' := (1 : Int32)) rfl ?_
              refine ⟨Nf, rfl, _, rfl, Or.inl ⟨rfl, ?_⟩⟩
              unfold exc
              omega
            · skip
              refine s_icmpNo (pc' := 71) X0.here hx (hb hby d2_68) rfl (feqI (x := a) (y := (215 : Int32)) hc68).1 ?_
              refine s_iloadN (pc' := 72) X0.here hx (hb hby d2_71) rfl rfl ?_
              refine s_sipush (pc' := 75) (z := (247 : Int32)) X0.here hx (hb hby d2_72) rfl rfl ?_
              by_cases hc75 : (a).toInt = (247 : Int)
              · skip
                refine s_icmpNo (pc' := 78) X0.here hx (hb hby d2_75) rfl (teqI (x := a) (y := (247 : Int32)) hc75).2 ?_
                refine s_iconst (pc' := 79) (z := (1 : Int32)) X0.here hx (hb hby d2_78) rfl rfl ?_
                refine s_goto (pc' := 83) X0.here hx (hb hby d2_79) (by decide) (by decide) ?_
                refine winN X0 hx hlk e0 (t := .boolean) Bd.returns (by simp) (hb hby d2_83) (by decide) (by decide) (z' := (1 : Int32)) rfl ?_
                refine ⟨Nf, rfl, _, rfl, Or.inl ⟨rfl, ?_⟩⟩
                unfold exc
                omega
              · skip
                refine s_icmpYes (pc' := 82) X0.here hx (hb hby d2_75) (feqI (x := a) (y := (247 : Int32)) hc75).2 (by decide) (by decide) ?_
                refine s_iconst (pc' := 83) (z := (0 : Int32)) X0.here hx (hb hby d2_82) rfl rfl ?_
                refine winN X0 hx hlk e0 (t := .boolean) Bd.returns (by simp) (hb hby d2_83) (by decide) (by decide) (z' := (0 : Int32)) rfl ?_
                refine ⟨Nf, rfl, _, rfl, Or.inr ⟨rfl, ?_⟩⟩
                unfold exc
                omega
      · skip
        refine s_icmpNo (pc' := 20) X0.here hx (hb hby d2_17) rfl (fltI (x := (127 : Int32)) (y := a) hc17).2.2.1 ?_
        refine s_iloadN (pc' := 21) X0.here hx (hb hby d2_20) rfl rfl ?_
        refine s_bipush (pc' := 23) (z := (90 : Int32)) X0.here hx (hb hby d2_21) rfl rfl ?_
        by_cases hc23 : (90 : Int) < (a).toInt
        · skip
          refine s_icmpNo (pc' := 26) X0.here hx (hb hby d2_23) rfl (tltI (x := (90 : Int32)) (y := a) hc23).2.2.2 ?_
          refine s_iloadN (pc' := 27) X0.here hx (hb hby d2_26) rfl rfl ?_
          refine s_bipush (pc' := 29) (z := (97 : Int32)) X0.here hx (hb hby d2_27) rfl rfl ?_
          by_cases hc29 : (a).toInt < (97 : Int)
          · skip
            refine s_icmpNo (pc' := 32) X0.here hx (hb hby d2_29) rfl (tltI (x := a) (y := (97 : Int32)) hc29).2.1 ?_
            refine s_iloadN (pc' := 33) X0.here hx (hb hby d2_32) rfl rfl ?_
            refine s_bipush (pc' := 35) (z := (95 : Int32)) X0.here hx (hb hby d2_33) rfl rfl ?_
            by_cases hc35 : (a).toInt = (95 : Int)
            · skip
              refine s_icmpNo (pc' := 38) X0.here hx (hb hby d2_35) rfl (teqI (x := a) (y := (95 : Int32)) hc35).2 ?_
              refine s_iloadN (pc' := 39) X0.here hx (hb hby d2_38) rfl rfl ?_
              refine s_bipush (pc' := 41) (z := (122 : Int32)) X0.here hx (hb hby d2_39) rfl rfl ?_
              by_cases hc41 : (122 : Int) < (a).toInt
              · skip
                refine s_icmpNo (pc' := 44) X0.here hx (hb hby d2_41) rfl (tltI (x := (122 : Int32)) (y := a) hc41).2.2.2 ?_
                refine s_iconst (pc' := 45) (z := (1 : Int32)) X0.here hx (hb hby d2_44) rfl rfl ?_
                refine s_goto (pc' := 49) X0.here hx (hb hby d2_45) (by decide) (by decide) ?_
                refine winN X0 hx hlk e0 (t := .boolean) Bd.returns (by simp) (hb hby d2_49) (by decide) (by decide) (z' := (1 : Int32)) rfl ?_
                refine ⟨Nf, rfl, _, rfl, Or.inl ⟨rfl, ?_⟩⟩
                unfold exc
                omega
              · skip
                refine s_icmpYes (pc' := 48) X0.here hx (hb hby d2_41) (fltI (x := (122 : Int32)) (y := a) hc41).2.2.2 (by decide) (by decide) ?_
                refine s_iconst (pc' := 49) (z := (0 : Int32)) X0.here hx (hb hby d2_48) rfl rfl ?_
                refine winN X0 hx hlk e0 (t := .boolean) Bd.returns (by simp) (hb hby d2_49) (by decide) (by decide) (z' := (0 : Int32)) rfl ?_
                refine ⟨Nf, rfl, _, rfl, Or.inr ⟨rfl, ?_⟩⟩
                unfold exc
                omega
            · skip
              refine s_icmpYes (pc' := 44) X0.here hx (hb hby d2_35) (feqI (x := a) (y := (95 : Int32)) hc35).2 (by decide) (by decide) ?_
              refine s_iconst (pc' := 45) (z := (1 : Int32)) X0.here hx (hb hby d2_44) rfl rfl ?_
              refine s_goto (pc' := 49) X0.here hx (hb hby d2_45) (by decide) (by decide) ?_
              refine winN X0 hx hlk e0 (t := .boolean) Bd.returns (by simp) (hb hby d2_49) (by decide) (by decide) (z' := (1 : Int32)) rfl ?_
              refine ⟨Nf, rfl, _, rfl, Or.inl ⟨rfl, ?_⟩⟩
              unfold exc
              omega
          · skip
            refine s_icmpYes (pc' := 38) X0.here hx (hb hby d2_29) (fltI (x := a) (y := (97 : Int32)) hc29).2.1 (by decide) (by decide) ?_
            refine s_iloadN (pc' := 39) X0.here hx (hb hby d2_38) rfl rfl ?_
            refine s_bipush (pc' := 41) (z := (122 : Int32)) X0.here hx (hb hby d2_39) rfl rfl ?_
            by_cases hc41 : (122 : Int) < (a).toInt
            · skip
              refine s_icmpNo (pc' := 44) X0.here hx (hb hby d2_41) rfl (tltI (x := (122 : Int32)) (y := a) hc41).2.2.2 ?_
              refine s_iconst (pc' := 45) (z := (1 : Int32)) X0.here hx (hb hby d2_44) rfl rfl ?_
              refine s_goto (pc' := 49) X0.here hx (hb hby d2_45) (by decide) (by decide) ?_
              refine winN X0 hx hlk e0 (t := .boolean) Bd.returns (by simp) (hb hby d2_49) (by decide) (by decide) (z' := (1 : Int32)) rfl ?_
              refine ⟨Nf, rfl, _, rfl, Or.inl ⟨rfl, ?_⟩⟩
              unfold exc
              omega
            · skip
              refine s_icmpYes (pc' := 48) X0.here hx (hb hby d2_41) (fltI (x := (122 : Int32)) (y := a) hc41).2.2.2 (by decide) (by decide) ?_
              refine s_iconst (pc' := 49) (z := (0 : Int32)) X0.here hx (hb hby d2_48) rfl rfl ?_
              refine winN X0 hx hlk e0 (t := .boolean) Bd.returns (by simp) (hb hby d2_49) (by decide) (by decide) (z' := (0 : Int32)) rfl ?_
              refine ⟨Nf, rfl, _, rfl, Or.inr ⟨rfl, ?_⟩⟩
              unfold exc
              omega
        · skip
          refine s_icmpYes (pc' := 38) X0.here hx (hb hby d2_23) (fltI (x := (90 : Int32)) (y := a) hc23).2.2.2 (by decide) (by decide) ?_
          refine s_iloadN (pc' := 39) X0.here hx (hb hby d2_38) rfl rfl ?_
          refine s_bipush (pc' := 41) (z := (122 : Int32)) X0.here hx (hb hby d2_39) rfl rfl ?_
          by_cases hc41 : (122 : Int) < (a).toInt
          · skip
            refine s_icmpNo (pc' := 44) X0.here hx (hb hby d2_41) rfl (tltI (x := (122 : Int32)) (y := a) hc41).2.2.2 ?_
            refine s_iconst (pc' := 45) (z := (1 : Int32)) X0.here hx (hb hby d2_44) rfl rfl ?_
            refine s_goto (pc' := 49) X0.here hx (hb hby d2_45) (by decide) (by decide) ?_
            refine winN X0 hx hlk e0 (t := .boolean) Bd.returns (by simp) (hb hby d2_49) (by decide) (by decide) (z' := (1 : Int32)) rfl ?_
            refine ⟨Nf, rfl, _, rfl, Or.inl ⟨rfl, ?_⟩⟩
            unfold exc
            omega
          · skip
            refine s_icmpYes (pc' := 48) X0.here hx (hb hby d2_41) (fltI (x := (122 : Int32)) (y := a) hc41).2.2.2 (by decide) (by decide) ?_
            refine s_iconst (pc' := 49) (z := (0 : Int32)) X0.here hx (hb hby d2_48) rfl rfl ?_
            refine winN X0 hx hlk e0 (t := .boolean) Bd.returns (by simp) (hb hby d2_49) (by decide) (by decide) (z' := (0 : Int32)) rfl ?_
            refine ⟨Nf, rfl, _, rfl, Or.inr ⟨rfl, ?_⟩⟩
            unfold exc
            omega
theorem pd_0 : parseMethodDescriptor "(I)Z" = some ⟨[.int], some .boolean⟩ := by decide +kernel
theorem ef_0 (m : MethodId) (x0 : Int32) : entryFrame m #[(.int x0)] maxLocals = mkF m 0 #[.val (.int x0)] [] := by first | (simp [entryFrame, mkF, argsToLocals, Value.category, maxLocals]; done) | rfl
def Q0 (Z : State) (x0 : Int32) (h0 : Heap) (n0 : Nat) (v : Option Value) (h : Heap) (L : List Loc) : Prop := Fr n0 L ∧ v = some (.int 1)
set_option maxRecDepth 65536 in
set_option maxHeartbeats 40000000 in
theorem rm0 (l : Launch) (Z : State) (a0 : Array Value) (hw : ∀ d ∈ tables_1, d.before a0 Z = true) (ws : List Jvm.Cond) (x0 : Int32) (h0 : Heap) (n0 : Nat) (Zs : n0 ≤ h0.size) :
    MetFree l x (head1 (Jvm.Cond.code x code maxLocals ret :: ws) room_1) (fun as' U => as' = #[(.int x0)] ∧ Z.Warmed39 U.vm ∧ U.heap = h0) (fun _ _ _ _ _ => True) (fun _ U o U' => ∃ v L, o = .returned v ∧ Q0 Z x0 h0 n0 v U'.heap L ∧ FrameEnd U o U' L room_1.cells room_1.slots) := by
  refine MetFree.of_bodySF (plainFor_of_name pn_2) hisR ?_
  intro p e s m args below meth c s₁ Bd hml0 hP hK
  obtain ⟨rfl, hZ, hh⟩ := hP
  have hx := Bd.exec
  have hby := Bd.bytes
  have hml : c.maxLocals = 1 := hml0
  have hown : s.vm.findClass "com/example/sextant/sextant/rdf/BlankNodeIsNameStartCharPinLaw" = some m.cls := findClass_of_methodNamed Bd.named
  have hnm := (name_of_methodNamed Bd.named Bd.method).1
  have hlk : meth.locks = false := Bd.notSynchronized
  have X0 : Stand p l e room_1 s m #[(.int x0)] below meth c s₁ [] 0 0 := Stand.of_body Bd
  have e0 : s₁.heap = h0 := by rw [← hh, Bd.state]; rfl
  have Nf := Fr.nil n0
  refine (?_ : Win p.tables e below (PostQ s (Q0 Z x0 h0 n0) room_1.cells room_1.slots) (s₁.setTop (entryFrame m #[(.int x0)] maxLocals)))
  rw [ef_0]
  show Win p.tables e below _ (s₁.setTop (mkF m 0 #[.val (.int x0)] []))
  refine s_iloadN (pc' := 1) X0.here hx (hb hby at_0) rfl rfl ?_
  obtain ⟨_, _, ⟨T_1, L_1, k_1, n_1⟩, -, X_1, ⟨Lc_1, hQ_1, l_1, y_1, z_1⟩, st_1⟩ := Jvm.LawKit.callS X0 hx (y := (⟨"com/example/sextant/sextant/rdf/BlankNode", "isNameStartChar", "(I)Z"⟩ : MethodName)) hown (mvT hZ (hw _ (List.mem_of_getElem? (i := 0) rfl))) (mvT hZ (hw _ (List.mem_of_getElem? (i := 1) rfl))) (mvT hZ (hw _ (List.mem_of_getElem? (i := 2) rfl))) (mvT hZ (hw _ (List.mem_of_getElem? (i := 3) rfl))) (by decide) (backOf (W := 0) (rm1 l Z a0 hw [] x0 h0 n0 Zs ) hZ (hw _ (List.mem_of_getElem? (i := 3) rfl)) (hw _ (List.mem_of_getElem? (i := 2) rfl)) (by decide) (by decide)) (g := (mkF m 1 #[.val (.int x0)] [(.int x0)])) rfl (by rw [hml]; rfl) (argsL := [(.int x0)]) (rest := []) (lenOf pd_0 rfl) rfl (by show 2 * 0 + _ ≤ _; exact Nat.le_of_eq rfl) (hb hby at_1) (fun _ _ => ⟨rfl, e0, (by decide : 0 + 0 ≤ _), (by decide : 0 + 0 ≤ _)⟩)
  dsimp only [Pt.U, Pt.locs, Pt.cells, Pt.slots] at X_1 l_1 y_1 z_1 st_1 hQ_1
  subst l_1 y_1 z_1
  obtain ⟨Nq_1, e_1, r1, rfl, hr1⟩ := hQ_1
  replace Nf := Fr.app Nf Nq_1
  refine Win.go st_1 ?_
  show Win p.tables e below _ (T_1.setTop (mkF m 4 #[.val (.int x0)] [(.int r1)]))
  refine s_iloadN (pc' := 5) X_1.here hx (hb hby at_4) rfl rfl ?_
  obtain ⟨_, _, ⟨T_2, L_2, k_2, n_2⟩, -, X_2, ⟨Lc_2, hQ_2, l_2, y_2, z_2⟩, st_2⟩ := Jvm.LawKit.callS X_1 hx (y := (⟨"com/example/sextant/sextant/rdf/BlankNodeIsNameStartCharPinLaw", "excluded", "(I)Z"⟩ : MethodName)) hown (mvT hZ (hw _ (List.mem_of_getElem? (i := 7) rfl))) (mvT hZ (hw _ (List.mem_of_getElem? (i := 8) rfl))) (mvT hZ (hw _ (List.mem_of_getElem? (i := 9) rfl))) (mvT hZ (hw _ (List.mem_of_getElem? (i := 10) rfl))) (by decide) (backOf (W := 1) (rm2 l Z a0 hw [] x0 h0 n0 Zs ) hZ (hw _ (List.mem_of_getElem? (i := 10) rfl)) (hw _ (List.mem_of_getElem? (i := 9) rfl)) (by decide) (by decide)) (g := (mkF m 5 #[.val (.int x0)] [(.int x0), (.int r1)])) rfl (by rw [hml]; rfl) (argsL := [(.int x0)]) (rest := [(.int r1)]) (lenOf pd_0 rfl) rfl (by show 2 * 0 + _ ≤ _; exact Nat.le_of_eq rfl) (hb hby at_5) (fun _ _ => ⟨rfl, e_1, (by decide : 0 + 0 ≤ _), (by decide : 0 + 0 ≤ _)⟩)
  dsimp only [Pt.U, Pt.locs, Pt.cells, Pt.slots] at X_2 l_2 y_2 z_2 st_2 hQ_2
  subst l_2 y_2 z_2
  obtain ⟨Nq_2, e_2, r2, rfl, hr2⟩ := hQ_2
  replace Nf := Fr.app Nf Nq_2
  refine Win.go st_2 ?_
  show Win p.tables e below _ (T_2.setTop (mkF m 8 #[.val (.int x0)] [(.int r2), (.int r1)]))
  have hiff := isN_exc x0.toInt
  by_cases hc8 : (r2).toInt = (0 : Int)
  · skip
    refine s_ifNo (pc' := 11) X_2.here hx (hb hby at_8) rfl ((if0 _ _).trans (teqI (x := r2) (y := (0 : Int32)) hc8).2) ?_
    refine s_iconst (pc' := 12) (z := (1 : Int32)) X_2.here hx (hb hby at_11) rfl rfl ?_
    refine s_goto (pc' := 16) X_2.here hx (hb hby at_12) (by decide) (by decide) ?_
    by_cases hc16 : (r1).toInt = (1 : Int)
    · skip
      refine s_icmpNo (pc' := 19) X_2.here hx (hb hby at_16) rfl (teqI (x := r1) (y := (1 : Int32)) hc16).2 ?_
      refine s_iconst (pc' := 20) (z := (1 : Int32)) X_2.here hx (hb hby at_19) rfl rfl ?_
      refine s_goto (pc' := 24) X_2.here hx (hb hby at_20) (by decide) (by decide) ?_
      refine winN X_2 hx hlk e_2 (t := .boolean) Bd.returns (by simp) (hb hby at_24) (by decide) (by decide) (z' := 1) rfl ⟨Nf, rfl⟩
    · skip
      refine s_icmpYes (pc' := 23) X_2.here hx (hb hby at_16) (feqI (x := r1) (y := (1 : Int32)) hc16).2 (by decide) (by decide) ?_
      refine s_iconst (pc' := 24) (z := (0 : Int32)) X_2.here hx (hb hby at_23) rfl rfl ?_
      exfalso
      rcases hr1 with ⟨a1, b1⟩ | ⟨a1, b1⟩ <;> rcases hr2 with ⟨a2, b2⟩ | ⟨a2, b2⟩ <;> first | omega | exact (hiff.mp b1) b2 | exact b1 (hiff.mpr b2)
  · skip
    refine s_ifYes (pc' := 15) X_2.here hx (hb hby at_8) ((if0 _ _).trans (feqI (x := r2) (y := (0 : Int32)) hc8).2) (by decide) (by decide) ?_
    refine s_iconst (pc' := 16) (z := (0 : Int32)) X_2.here hx (hb hby at_15) rfl rfl ?_
    by_cases hc16 : (r1).toInt = (0 : Int)
    · skip
      refine s_icmpNo (pc' := 19) X_2.here hx (hb hby at_16) rfl (teqI (x := r1) (y := (0 : Int32)) hc16).2 ?_
      refine s_iconst (pc' := 20) (z := (1 : Int32)) X_2.here hx (hb hby at_19) rfl rfl ?_
      refine s_goto (pc' := 24) X_2.here hx (hb hby at_20) (by decide) (by decide) ?_
      refine winN X_2 hx hlk e_2 (t := .boolean) Bd.returns (by simp) (hb hby at_24) (by decide) (by decide) (z' := 1) rfl ⟨Nf, rfl⟩
    · skip
      refine s_icmpYes (pc' := 23) X_2.here hx (hb hby at_16) (feqI (x := r1) (y := (0 : Int32)) hc16).2 (by decide) (by decide) ?_
      refine s_iconst (pc' := 24) (z := (0 : Int32)) X_2.here hx (hb hby at_23) rfl rfl ?_
      exfalso
      rcases hr1 with ⟨a1, b1⟩ | ⟨a1, b1⟩ <;> rcases hr2 with ⟨a2, b2⟩ | ⟨a2, b2⟩ <;> first | omega | exact (hiff.mp b1) b2 | exact b1 (hiff.mpr b2)
set_option maxRecDepth 65536 in
set_option maxHeartbeats 40000000 in
theorem comes_1 {Post : Tables → Env → Array Value → State → Outcome → State → Prop} (hpost : ∀ tb e args s v u, (limb_1_1.after args s (.returned v) u = true ∧ limb_1_2.after args s (.returned v) u = true ∧ True) → FrameEnd s (.returned v) u (Jvm.fieldLocs frame_1_writes args s ++ Jvm.arrayLocs frame_1_arrays args s ++ Jvm.staticLocs frame_1_statics s) 0 0 → Post tb e args s (.returned v) u) :
    ArmFor flags0 classFile x code maxLocals ret World_1 tables_1 room_1 Calls_1 rest_1 Pre_1 Post := by
  intro l hfl _ _ p e ha hc hk s m args below hf hA hF happ hP
  obtain ⟨hcalls, hrest, hpre⟩ := hP
  obtain ⟨-, -, -, hnamed, -, -, -, hat⟩ := (Spec.applies_iff hf).mp happ
  obtain ⟨hg, hn⟩ := and_e (Cond.before_iff.mp (show (Jvm.Cond.and given_1 narrow_1).before args s = true from hpre))
  obtain ⟨g1, g2⟩ := and_e hg
  obtain ⟨w0, rfl⟩ : ∃ w0 : Value, args = #[w0] := by
    have hs : args.size = 1 := by simpa [Cond.value, given_1] using g1
    obtain ⟨L⟩ := args
    match L, hs with
    | [w0], _ => exact ⟨w0, rfl⟩
  have hw := fun d (hd : d ∈ tables_1) => atoms_spec (ws := Jvm.Cond.code x code maxLocals ret :: tables_1) hat d (List.mem_cons_of_mem _ hd)
  have hfit : Fit s := fun {y c} hc i hi => by
    obtain ⟨ha, rfl⟩ := Array.getElem?_eq_some_iff.mp hc
    have q := List.all_eq_true.mp ((Array.all_eq_true_iff_forall_mem.mp hF) _ (Array.getElem_mem ha)) i (List.mem_range.mpr hi)
    simpa [Array.getElem?_eq_getElem hi] using q
  obtain ⟨i0, ei0⟩ := is_v g2
  obtain rfl : w0 = (.int i0) := Option.some.inj ei0
  obtain ⟨n, o, h1, h2, h3, _, L, rfl, ⟨N, rfl⟩, hq⟩ := rm0 l s _ hw tables_1 i0 s.heap s.heap.size (Nat.le_refl _) p e ha hc hk s m _ below hf ((Spec.applies_iff_loose hf).mp happ).1 ⟨rfl, State.Warmed39.refl s, rfl⟩ trivial
  refine ⟨n, _, h1, h2, h3, hpost _ _ _ _ _ _ ⟨Cond.after_iff.mpr rfl, Cond.after_iff.mpr (eq_i res_at (Term.int_eval (1)) rfl), trivial⟩ ⟨hq.1, hq.2.1, (hq.2.2.sift fun y hy => Or.inr (N y hy)).mono (by decide) (by decide)⟩⟩
theorem main_1_1 : Claimed_1_1 := comes_1 fun _ _ _ _ _ _ h hF => ⟨h.1, hF⟩
theorem main_1_2 : Claimed_1_2 := comes_1 fun _ _ _ _ _ _ h hF => ⟨h.2.1, hF⟩
end Jvm.Pilot.@@N@@
namespace Jvm.Pilot.@@N@@
open Jvm Jvm.ClassFile Sem Op Lib Jvm.Free Jvm.Stand Jvm.Pilot.@@N@@.Jvm.D
/-! MADE BY PROGRAM (witnessworld.py) out of the Statement's table words and the real class files: 10 classes; the members and pool entries that the words name. The judged class is class 1, her method 1. -/
namespace start1
open Jvm.ClassFile
def u (s : String) : CpInfo := .utf8 (stringToUtf16 s)
/-- a pool by its gaps: so many unusable entries, then the entry; so many at the end -/
def gap : Nat → List CpInfo → List CpInfo
  | 0, r => r
  | n + 1, r => .unusable :: gap n r
def poolList (es : List (Nat × CpInfo)) (last : Nat) : List CpInfo := es.foldr (fun e r => gap e.1 (e.2 :: r)) (gap last [])
def pool (es : List (Nat × CpInfo)) (last : Nat) : Array CpInfo := ⟨poolList es last⟩
def fileOf (pool : Array CpInfo) (this : Nat) (attrs : Array Attribute := #[]) (ms : Array MethodInfo := #[]) (fl : Nat := 33) (sup : Nat := 0) (ifs : Array Nat := #[]) (fds : Array FieldInfo := #[]) : ClassFile where
  minorVersion := 0
  majorVersion := 65
  constantPool := pool
  accessFlags := fl
  thisClass := this
  superClass := sup
  interfaces := ifs
  fields := fds
  methods := ms
  attributes := attrs
def plain (name : String) (sup : Option ClassId) : Class where
  name := name
  kind := .ordinary
  loader := none
  accessFlags := 33
  super := sup
  interfaces := #[]
  cf := none
  fields := #[]
  methods := #[]
  instanceTypes := #[]
  staticTypes := #[]
  resolved := #[]
  callSites := []
  init := .initialized
  statics := none
  mirror := none

def pool0 : Array CpInfo := pool [(5, u "<init>"), (0, u "()V"), (1, .class_ 10), (1, u "java/lang/Object")] 113

def k0m0 : Method := { name := "<init>", desc := "()V", sig := { parameters := [], returnType := none }, accessFlags := 1, code := none }
/-- java/lang/Object -/
def k0 : Class := { plain "java/lang/Object" none with
  accessFlags := 33
  interfaces := #[]
  cf := some (fileOf pool0 8 #[] #[{ accessFlags := 1, nameIndex := 5, descriptorIndex := 6, attributes := #[] }] 33 0 #[] #[])
  fields := #[]
  methods := #[k0m0]
  instanceTypes := #[]
  staticTypes := #[]
  resolved := Array.replicate 124 none
  statics := none }

def pool1 : Array CpInfo := pool [(2, .class_ 4), (1, u "java/lang/Object"), (0, u "<init>"), (0, u "()V"), (0, .methodref 8 9), (0, .class_ 10), (0, .nameAndType 11 12), (0, u "com/example/sextant/sextant/rdf/BlankNode"), (0, u "isNameStartChar"), (0, u "(I)Z"), (0, .methodref 14 15), (0, .class_ 16), (0, .nameAndType 17 12), (0, u "com/example/sextant/sextant/rdf/BlankNodeIsNameStartCharPinLaw"), (0, u "excluded"), (0, .integer 983039), (0, .integer 65535), (0, .integer 55296), (0, .integer 63743), (0, .integer 64976), (0, .integer 65007), (0, .integer 65534), (2, u "law")] 3

def k1m0 : Method := { name := "<init>", desc := "()V", sig := { parameters := [], returnType := none }, accessFlags := 2, code := none }
def k1c1 : Code := { maxStack := 2, maxLocals := 1, code := code, exceptionTable := #[], attributes := #[] }
def k1m1 : Method := { name := "law", desc := "(I)Z", sig := { parameters := [.int], returnType := some .boolean }, accessFlags := 9, code := some k1c1 }
def k1c2 : Code := { maxStack := 2, maxLocals := 1, code := method_3_code, exceptionTable := #[], attributes := #[] }
def k1m2 : Method := { name := "excluded", desc := "(I)Z", sig := { parameters := [.int], returnType := some .boolean }, accessFlags := 10, code := some k1c2 }
/-- com/example/sextant/sextant/rdf/BlankNodeIsNameStartCharPinLaw -/
def k1 : Class := { plain "com/example/sextant/sextant/rdf/BlankNodeIsNameStartCharPinLaw" (some 0) with
  accessFlags := 49
  interfaces := #[]
  cf := some (fileOf pool1 14 #[] #[{ accessFlags := 2, nameIndex := 5, descriptorIndex := 6, attributes := #[] }, { accessFlags := 9, nameIndex := 27, descriptorIndex := 12, attributes := #[] }, { accessFlags := 10, nameIndex := 17, descriptorIndex := 12, attributes := #[] }] 49 2 #[] #[])
  fields := #[]
  methods := #[k1m0, k1m1, k1m2]
  instanceTypes := #[]
  staticTypes := #[]
  resolved := Array.replicate 31 none
  statics := none }

def pool2 : Array CpInfo := pool [(2, .class_ 4), (1, u "java/lang/Object"), (0, u "<init>"), (0, u "()V"), (4, .class_ 13), (1, u "com/example/sextant/sextant/rdf/Term")] 17

def k2m0 : Method := { name := "<init>", desc := "()V", sig := { parameters := [], returnType := none }, accessFlags := 0, code := none }
/-- com/example/sextant/sextant/rdf/Term -/
def k2 : Class := { plain "com/example/sextant/sextant/rdf/Term" (some 0) with
  accessFlags := 1057
  interfaces := #[]
  cf := some (fileOf pool2 11 #[] #[{ accessFlags := 0, nameIndex := 5, descriptorIndex := 6, attributes := #[] }] 1057 2 #[] #[])
  fields := #[]
  methods := #[k2m0]
  instanceTypes := #[]
  staticTypes := #[]
  resolved := Array.replicate 31 none
  statics := none }

def pool3 : Array CpInfo := pool [(2, .class_ 4), (1, u "com/example/sextant/sextant/rdf/Term"), (3, u "label"), (7, .class_ 18), (1, u "com/example/sextant/sextant/rdf/BlankNode"), (13, u "Ljava/lang/String;"), (28, u "isNameStartChar"), (0, u "(I)Z"), (15, .integer 55295), (0, .integer 63744), (0, .integer 64975), (0, .integer 65008), (0, .integer 65533), (0, .integer 65536), (0, .integer 983039)] 24

def k3c0 : Code := { maxStack := 2, maxLocals := 1, code := prog_21_method_7_code, exceptionTable := #[], attributes := #[] }
def k3m0 : Method := { name := "isNameStartChar", desc := "(I)Z", sig := { parameters := [.int], returnType := some .boolean }, accessFlags := 9, code := some k3c0 }
/-- com/example/sextant/sextant/rdf/BlankNode -/
def k3 : Class := { plain "com/example/sextant/sextant/rdf/BlankNode" (some 2) with
  accessFlags := 49
  interfaces := #[]
  cf := some (fileOf pool3 16 #[] #[{ accessFlags := 9, nameIndex := 61, descriptorIndex := 62, attributes := #[] }] 49 2 #[] #[{ accessFlags := 18, nameIndex := 8, descriptorIndex := 32, attributes := #[] }])
  fields := #[{ name := "label", type := (.object "java/lang/String"), accessFlags := 18, slot := 0, constantValue := 0 }]
  methods := #[k3m0]
  instanceTypes := #[(.object "java/lang/String")]
  staticTypes := #[]
  resolved := Array.replicate 109 none
  statics := none }

def pool4 : Array CpInfo := pool [(1, u "java/lang/Cloneable"), (0, .class_ 1), (0, u "java/lang/Object"), (0, .class_ 3)] 3

/-- java/lang/Cloneable -/
def k4 : Class := { plain "java/lang/Cloneable" (some 0) with
  accessFlags := 1537
  interfaces := #[]
  cf := some (fileOf pool4 2 #[] #[] 1537 4 #[] #[])
  fields := #[]
  methods := #[]
  instanceTypes := #[]
  staticTypes := #[]
  resolved := Array.replicate 8 none
  statics := none }

def pool5 : Array CpInfo := pool [(1, u "java/io/Serializable"), (0, .class_ 1), (0, u "java/lang/Object"), (0, .class_ 3)] 3

/-- java/io/Serializable -/
def k5 : Class := { plain "java/io/Serializable" (some 0) with
  accessFlags := 1537
  interfaces := #[]
  cf := some (fileOf pool5 2 #[] #[] 1537 4 #[] #[])
  fields := #[]
  methods := #[]
  instanceTypes := #[]
  staticTypes := #[]
  resolved := Array.replicate 8 none
  statics := none }

/-- the primitive byte -/
def k6 : Class := { plain "byte" none with kind := .primitive 'B', accessFlags := 0x411 }
/-- [B -/
def k7 : Class := { plain "[B" (some 0) with kind := .array 6 .byte, interfaces := #[4, 5], accessFlags := 1041 }

/-- the primitive int -/
def k8 : Class := { plain "int" none with kind := .primitive 'I', accessFlags := 0x411 }
/-- [I -/
def k9 : Class := { plain "[I" (some 0) with kind := .array 8 .int, interfaces := #[4, 5], accessFlags := 1041 }

def heap : Heap := #[]
def classes : Array Class := #[k0, k1, k2, k3, k4, k5, k6, k7, k8, k9]
def interned : List (Array UInt16 × Addr) := []
def slotsUsed : Nat := 0
def theMethod : MethodId := ⟨1, 1⟩
def args0 : Array Value := #[.int 5]
def aboutOver (below : List Frame) : State where
  vm := { classes := classes, interned := interned.toArray }
  heap := heap
  slotsUsed := slotsUsed
  threads := #[{ frames := .invoking theMethod args0 :: below }]
def below0 : List Frame := [.native { method := ⟨0, 0⟩, args := #[] }]
def about1 : State := aboutOver below0
def p0 : Program := .bare "" "" ""
def e0 : Env := launch0.env 0 0 0
theorem w_frames : about1.frames = Frame.invoking theMethod args0 :: below0 := rfl
set_option maxRecDepth 65536 in
theorem w_args : argsFit about1.vm theMethod args0 = true := by decide +kernel
set_option maxRecDepth 65536 in
theorem w_heap : heapFits about1 = true := by decide +kernel
set_option maxRecDepth 65536 in
theorem w_runnable : about1.curStatus? = some .runnable := by decide +kernel
set_option maxRecDepth 65536 in
theorem w_alone : about1.alone = true := by decide +kernel
set_option maxRecDepth 65536 in
theorem w_named : about1.methodNamed? x = some theMethod := by decide +kernel
set_option maxRecDepth 65536 in
theorem w_hears : about1.hears theMethod below0 = true := by decide +kernel
set_option maxRecDepth 65536 in
theorem w_ripe : about1.ripe theMethod args0 below0 = true := by decide +kernel
theorem w_running : about1.status = .running := rfl
set_option maxRecDepth 65536 in
theorem w_room : about1.hasRoom e0.platform room_1 = true :=
  launch0.hasRoom_least _ room_1 (by decide +kernel) (by decide +kernel) (by decide +kernel) (by decide +kernel) (by decide +kernel) (by decide +kernel)
theorem allAtoms_all (ts : List Jvm.Cond) (a : Array Jvm.Value) (st : Jvm.State) : (allAtoms ts).before a st = ts.all (fun c => c.before a st) := by
  induction ts with
  | nil => rfl
  | cons c t ih =>
    show (Jvm.Cond.and c (allAtoms t)).before a st = _
    rw [Jvm.Cond.before_and, ih, List.all_cons]
def words1 : List Jvm.Cond := Jvm.Cond.code x code maxLocals ret :: tables_1
/-- a 'code' word, met by the world's own term for the bytes: nothing is compared byte by byte -/
theorem code_word {y : MethodName} {bytes : ByteArray} {mx : Nat} {rt : Option FieldType} {a : Array Value} {s : State} {m : MethodId} {meth : Method} {c : Code} (h1 : s.methodNamed? y = some m) (h2 : s.vm.method? m = some meth) (h3 : meth.code = some c) (h4 : c.code = bytes)
    (h5 : (c.maxLocals == mx && c.exceptionTable.isEmpty && decide (c.maxStack ≤ mostOperands) && decide (meth.sig.returnType = rt) && !meth.locks && decide (parseMethodDescriptor y.desc = some meth.sig)) = true) : (Jvm.Cond.code y bytes mx rt).before a s = true := by
  simp only [Bool.and_eq_true, beq_iff_eq, Bool.not_eq_true', decide_eq_true_eq] at h5
  obtain ⟨⟨⟨⟨⟨g1, g2⟩, g3⟩, g4⟩, g5⟩, g6⟩ := h5
  simp [Cond.before, Cond.holds, Cond.value, h1, h2, h3, h4, g1, g2, g3, g4, g5, g6]
def isCode : Jvm.Cond → Bool
  | .code _ _ _ _ => true
  | _ => false
theorem all_split {L : List Jvm.Cond} {P : Jvm.Cond → Bool} (h1 : L.all (fun c => isCode c || P c) = true) (h2 : ∀ c ∈ L.filter isCode, P c = true) : L.all P = true := by
  refine List.all_eq_true.mpr fun c hc => ?_
  have h := List.all_eq_true.mp h1 c hc
  rcases Bool.eq_false_or_eq_true (isCode c) with hi | hi
  · exact h2 c (List.mem_filter.mpr ⟨hc, hi⟩)
  · simpa [hi] using h
set_option maxRecDepth 65536 in
theorem w_c0 : (Jvm.Cond.code x code maxLocals ret).before args0 about1 = true := code_word (m := ⟨1, 1⟩) (meth := k1m1) (c := k1c1) (by decide +kernel) rfl rfl rfl (by decide +kernel)
set_option maxRecDepth 65536 in
theorem w_c1 : (Jvm.Cond.code ({ cls := "com/example/sextant/sextant/rdf/BlankNode", name := "isNameStartChar", desc := "(I)Z" } : Jvm.MethodName) prog_21_method_7_code (1 : Nat) (Option.some Jvm.ClassFile.FieldType.boolean)).before args0 about1 = true := code_word (m := ⟨3, 0⟩) (meth := k3m0) (c := k3c0) (by decide +kernel) rfl rfl rfl (by decide +kernel)
set_option maxRecDepth 65536 in
theorem w_c2 : (Jvm.Cond.code ({ cls := "com/example/sextant/sextant/rdf/BlankNodeIsNameStartCharPinLaw", name := "excluded", desc := "(I)Z" } : Jvm.MethodName) method_3_code (1 : Nat) (Option.some Jvm.ClassFile.FieldType.boolean)).before args0 about1 = true := code_word (m := ⟨1, 2⟩) (meth := k1m2) (c := k1c2) (by decide +kernel) rfl rfl rfl (by decide +kernel)
def codes1 : List Jvm.Cond := [Jvm.Cond.code x code maxLocals ret, Jvm.Cond.code ({ cls := "com/example/sextant/sextant/rdf/BlankNode", name := "isNameStartChar", desc := "(I)Z" } : Jvm.MethodName) prog_21_method_7_code (1 : Nat) (Option.some Jvm.ClassFile.FieldType.boolean), Jvm.Cond.code ({ cls := "com/example/sextant/sextant/rdf/BlankNodeIsNameStartCharPinLaw", name := "excluded", desc := "(I)Z" } : Jvm.MethodName) method_3_code (1 : Nat) (Option.some Jvm.ClassFile.FieldType.boolean)]
set_option maxRecDepth 65536 in
theorem codes_eq : words1.filter isCode = codes1 := rfl
theorem w_codes : ∀ c ∈ words1.filter isCode, c.before args0 about1 = true := by
  rw [codes_eq]
  intro c hc
  simp only [codes1, List.mem_cons, List.not_mem_nil, or_false] at hc
  rcases hc with rfl | rfl | rfl
  · exact w_c0
  · exact w_c1
  · exact w_c2
set_option maxRecDepth 65536 in
theorem w_t1 : words1.all (fun c => isCode c || c.before args0 about1) = true := by decide +kernel
theorem w_tables : (allAtoms (Jvm.Cond.code x code maxLocals ret :: tables_1)).before args0 about1 = true := by
  rw [allAtoms_all]
  show words1.all (fun c => c.before args0 about1) = true
  refine all_split ?_ w_codes
  rw [w_t1]
set_option maxRecDepth 65536 in
theorem w_case : (Jvm.Cond.and given_1 narrow_1).before args0 about1 = true := by decide +kernel
theorem w_applies : (headSpec (Jvm.Cond.code x code maxLocals ret :: tables_1) room_1).applies x e0.platform about1 = true :=
  (Spec.applies_iff w_frames).mpr ⟨w_running, w_runnable, w_alone, w_named, w_hears, w_ripe, w_room, w_tables⟩
theorem atStart : AtStart classFile x code maxLocals ret World_1 tables_1 room_1 Calls_1 rest_1 Pre_1 launch0 p0 e0 about1 theMethod args0 below0 :=
  ⟨lists_1, trivial, launch0.admits_env _ _ _, launch0.least_env, fairChoices_fair.cas, fairChoices_fair.clock, w_frames, w_args, w_heap, w_applies, trivial, trivial, w_case⟩
end start1
theorem witness_1 : WitnessClaimed_1 := ⟨start1.p0, start1.e0, start1.about1, start1.theMethod, start1.args0, start1.below0, start1.atStart⟩
end Jvm.Pilot.@@N@@
