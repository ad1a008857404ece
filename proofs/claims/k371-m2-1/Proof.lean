import JvmDerived
import JvmDerived.Pilot.@@N@@Statement
import JvmDerived.Pilot.@@N@@Code
set_option linter.unusedVariables false
set_option linter.unusedSimpArgs false
namespace Jvm.OwnWalk
open Sem ClassFile Op Lib Jvm.Stand Jvm.Free Jvm.LawKit Jvm.RoadKit
/-- from t the run comes to an end of which P holds -/
def Win (tb : Tables) (e : Env) (below : List Frame) (P : State → Outcome → Prop) (t : State) : Prop :=
  ∃ s₂ o, Steps tb e below t s₂ ∧ s₂.status = .running ∧ Ended s₂ below o ∧ P s₂ o
theorem Win.go {tb : Tables} {e : Env} {below : List Frame} {P : State → Outcome → Prop} {t t' : State} (st : ∀ z, Steps tb e below t' z → Steps tb e below t z) (w : Win tb e below P t') : Win tb e below P t := by
  obtain ⟨s2, o, h, r⟩ := w; exact ⟨s2, o, st _ h, r⟩
theorem Win.come {tb : Tables} {e : Env} {below : List Frame} {P : State → Outcome → Prop} {t t' : State} (st : Steps tb e below t t') (w : Win tb e below P t') : Win tb e below P t := by
  obtain ⟨s2, o, h, r⟩ := w; exact ⟨s2, o, st.trans h, r⟩
/-- the body has returned v with the heap h, L written -/
def PostQ (s : State) (Q : Option Value → Heap → List Loc → Prop) (C S : Nat) (u : State) (o : Outcome) : Prop := ∃ v L, o = .returned v ∧ Q v u.heap L ∧ FrameEnd s o u L C S
section Ret
variable {p : Program} {l : Launch} {e : Env} {R : Room} {s : State} {m : MethodId} {args : Array Value} {below : List Frame} {meth : Method} {c : Code} {T : State} {locs : List Loc} {cells slots : Nat} {h : Heap} {Q : Option Value → Heap → List Loc → Prop} {C S : Nat}
theorem retI' (X : Stand p l e R s m args below meth c T locs cells slots) (hx : p.tables.exec = Jvm.exec) {pc : Nat} {Ls : Array Slot} {z : Int32} {rest : List Value} (hret : meth.sig.returnType = some .int) (hd : decode c.code pc = .ok (.ireturn, 1)) {fs : List Frame}
    (hl : ∀ (f : JFrame) (acts : List Action), f.method = m → f.locked = none → f.entered = [] → (doReturn e (T.setTop f) acts (some (.int z))).1 = T.setFrames fs) : Steps p.tables e below (T.setTop (mkF m pc Ls (.int z :: rest))) (T.setFrames fs) := by
  have hm' : T.vm.method? m = some meth := X.method'
  have hn : narrow .int (.int z) = .int z := rfl
  show Steps p.tables e below (T.setTop { method := m, pc := pc, locals := Ls, stack := _ :: rest, locked := none }) _
  jvm_step X.here [X.here.top, hx, hd, hm', hret, hn]
  first | (intro acts; rw [hl _ acts rfl rfl rfl]) | rw [hl _ _ rfl rfl rfl]
  exact Steps.refl _
theorem retA' (X : Stand p l e R s m args below meth c T locs cells slots) (hx : p.tables.exec = Jvm.exec) {pc : Nat} {Ls : Array Slot} {w : Value} {t : FieldType} (hret : meth.sig.returnType = some t) (ht : t.isReference = true) (hv : w.isRef = true) (hd : decode c.code pc = .ok (.areturn, 1)) {fs : List Frame}
    (hl : ∀ (f : JFrame) (acts : List Action), f.method = m → f.locked = none → f.entered = [] → (doReturn e (T.setTop f) acts (some w)).1 = T.setFrames fs) : Steps p.tables e below (T.setTop (mkF m pc Ls [w])) (T.setFrames fs) := by
  have hm' : T.vm.method? m = some meth := X.method'
  show Steps p.tables e below (T.setTop { method := m, pc := pc, locals := Ls, stack := [w], locked := none }) _
  jvm_step X.here [X.here.top, hx, hd, hm', hret, hv, ht]
  first | (intro acts; rw [hl _ acts rfl rfl rfl]) | rw [hl _ _ rfl rfl rfl]
  exact Steps.refl _
theorem winI (X : Stand p l e R s m args below meth c T locs cells slots) (hx : p.tables.exec = Jvm.exec) (hlk : meth.locks = false) (eT : T.heap = h) {pc : Nat} {Ls : Array Slot} {z : Int32} {rest : List Value} (hret : meth.sig.returnType = some .int) (hd : decode c.code pc = .ok (.ireturn, 1))
    (hc : cells ≤ C) (hs : slots ≤ S) (hQ : Q (some (.int z)) h locs) : Win p.tables e below (PostQ s Q C S) (T.setTop (mkF m pc Ls (.int z :: rest))) := by
  subst eT
  obtain ⟨fs, hr, hrun, hended, hW, hsame⟩ := X.leave (v := some (.int z)) (fun h => by rw [hret] at h; cases h) hlk
  exact ⟨_, _, retI' X hx hret hd hr, hrun, hended, _, _, rfl, hQ, ⟨_, rfl⟩, hW, hsame.mono hc hs⟩
theorem winN (X : Stand p l e R s m args below meth c T locs cells slots) (hx : p.tables.exec = Jvm.exec) (hlk : meth.locks = false) (eT : T.heap = h) {pc : Nat} {Ls : Array Slot} {z z' : Int32} {rest : List Value} {t : FieldType} (hret : meth.sig.returnType = some t) (ht : t = .boolean ∨ t = .byte ∨ t = .char ∨ t = .short) (hd : decode c.code pc = .ok (.ireturn, 1))
    (hc : cells ≤ C) (hs : slots ≤ S) (hz : nar t z = z') (hQ : Q (some (.int z')) h locs) : Win p.tables e below (PostQ s Q C S) (T.setTop (mkF m pc Ls (.int z :: rest))) := by
  subst eT hz
  obtain ⟨fs, hr, hrun, hended, hW, hsame⟩ := X.leave (v := some (.int (nar t z))) (fun h => by rw [hret] at h; cases h) hlk
  exact ⟨_, _, retN X hx hret ht hd hr, hrun, hended, _, _, rfl, hQ, ⟨_, rfl⟩, hW, hsame.mono hc hs⟩
theorem winL (X : Stand p l e R s m args below meth c T locs cells slots) (hx : p.tables.exec = Jvm.exec) (hlk : meth.locks = false) (eT : T.heap = h) {pc : Nat} {Ls : Array Slot} {z : Int64} (hret : meth.sig.returnType = some .long) (hd : decode c.code pc = .ok (.lreturn, 1))
    (hc : cells ≤ C) (hs : slots ≤ S) (hQ : Q (some (.long z)) h locs) : Win p.tables e below (PostQ s Q C S) (T.setTop (mkF m pc Ls [.long z])) := by
  subst eT
  obtain ⟨fs, hr, hrun, hended, hW, hsame⟩ := X.leave (v := some (.long z)) (fun h => by rw [hret] at h; cases h) hlk
  exact ⟨_, _, X.lreturnOut hx hret hd hr, hrun, hended, _, _, rfl, hQ, ⟨_, rfl⟩, hW, hsame.mono hc hs⟩
theorem winA (X : Stand p l e R s m args below meth c T locs cells slots) (hx : p.tables.exec = Jvm.exec) (hlk : meth.locks = false) (eT : T.heap = h) {pc : Nat} {Ls : Array Slot} {w : Value} {t : FieldType} (hret : meth.sig.returnType = some t) (ht : t.isReference = true) (hv : w.isRef = true) (hd : decode c.code pc = .ok (.areturn, 1))
    (hc : cells ≤ C) (hs : slots ≤ S) (hQ : Q (some w) h locs) : Win p.tables e below (PostQ s Q C S) (T.setTop (mkF m pc Ls [w])) := by
  subst eT
  obtain ⟨fs, hr, hrun, hended, hW, hsame⟩ := X.leave (v := some w) (fun h => by rw [hret] at h; cases h) hlk
  exact ⟨_, _, retA' X hx hret ht hv hd hr, hrun, hended, _, _, rfl, hQ, ⟨_, rfl⟩, hW, hsame.mono hc hs⟩
theorem winV (X : Stand p l e R s m args below meth c T locs cells slots) (hx : p.tables.exec = Jvm.exec) (hlk : meth.locks = false) (eT : T.heap = h) {pc : Nat} {Ls : Array Slot} (hret : meth.sig.returnType = none) (hd : decode c.code pc = .ok (.return_, 1))
    (hc : cells ≤ C) (hs : slots ≤ S) (hQ : Q none h locs) : Win p.tables e below (PostQ s Q C S) (T.setTop (mkF m pc Ls [])) := by
  subst eT
  obtain ⟨fs, hr, hrun, hended, hW, hsame⟩ := X.leave (v := none) (fun _ => rfl) hlk
  exact ⟨_, _, X.returnOut hx hret hd hr, hrun, hended, _, _, rfl, hQ, ⟨_, rfl⟩, hW, hsame.mono hc hs⟩
def PostQW (s : State) (Q : Option Value → Heap → List Loc → Prop) (C S : Nat) (u : State) (o : Outcome) : Prop := ∃ v L, o = .returned v ∧ Q v u.heap L ∧ ReturnedEndW s o u L C S
theorem winNW {vm0 : Vm} {k0 : Nat} (hS : s.Since vm0 k0) (hk : k0 ≤ h.size) (X : Stand p l e R (s.setVm vm0) m args below meth c T locs cells slots) (hx : p.tables.exec = Jvm.exec) (hlk : meth.locks = false) (eT : T.heap = h) {pc : Nat} {Ls : Array Slot} {z z' : Int32} {rest : List Value} {t : FieldType} (hret : meth.sig.returnType = some t) (ht : t = .boolean ∨ t = .byte ∨ t = .char ∨ t = .short) (hd : decode c.code pc = .ok (.ireturn, 1))
    (hc : cells ≤ C) (hs : slots ≤ S) (hz : nar t z = z') (hQ : Q (some (.int z')) h locs) : Win p.tables e below (PostQW s Q C S) (T.setTop (mkF m pc Ls (.int z :: rest))) := by
  subst eT hz
  obtain ⟨fs, hr, hrun, hended, h1, h2, h3, h4⟩ := X.leaveW hS hk (v := some (.int (nar t z))) (fun h => by rw [hret] at h; cases h) hlk
  exact ⟨_, _, retN X hx hret ht hd hr, hrun, hended, _, _, rfl, hQ, ⟨_, rfl⟩, h2, h3, h4.mono hc hs⟩
end Ret
section Steps
variable {tb : Tables} [Ours tb] {e : Env} {below : List Frame} {P : State → Outcome → Prop} {T : State} {m : MethodId} {c : Code} {pc pc' : Nat} {ls : Array Slot} {st : List Value}
theorem s_iloadN {k : Fin 4} {v : Int32} (h : At T m c below) (hx : tb.exec = Jvm.exec) (hd : decode c.code pc = .ok (.iload_n k, 1)) (hp : pc + 1 = pc') (hl : ls[k.val]? = some (.val (.int v))) (w : Win tb e below P (T.setTop (mkF m pc' ls (.int v :: st)))) : Win tb e below P (T.setTop (mkF m pc ls st)) := by
  subst hp; exact Win.go (fun _ k => XS.iloadN h hx rfl hd hl k) w
theorem s_iload {k : Nat} {v : Int32} (h : At T m c below) (hx : tb.exec = Jvm.exec) (hd : decode c.code pc = .ok (.iload k, 2)) (hp : pc + 2 = pc') (hl : ls[k]? = some (.val (.int v))) (w : Win tb e below P (T.setTop (mkF m pc' ls (.int v :: st)))) : Win tb e below P (T.setTop (mkF m pc ls st)) := by
  subst hp; exact Win.go (fun _ k => XS.iload h hx rfl hd hl k) w
theorem s_lloadN {k : Fin 4} {v : Int64} (h : At T m c below) (hx : tb.exec = Jvm.exec) (hd : decode c.code pc = .ok (.lload_n k, 1)) (hp : pc + 1 = pc') (hl : ls[k.val]? = some (.val (.long v))) (w : Win tb e below P (T.setTop (mkF m pc' ls (.long v :: st)))) : Win tb e below P (T.setTop (mkF m pc ls st)) := by
  subst hp; exact Win.go (fun _ k => XS.lloadN h hx rfl hd hl k) w
theorem s_lload {k : Nat} {v : Int64} (h : At T m c below) (hx : tb.exec = Jvm.exec) (hd : decode c.code pc = .ok (.lload k, 2)) (hp : pc + 2 = pc') (hl : ls[k]? = some (.val (.long v))) (w : Win tb e below P (T.setTop (mkF m pc' ls (.long v :: st)))) : Win tb e below P (T.setTop (mkF m pc ls st)) := by
  subst hp; exact Win.go (fun _ k => XS.lload h hx rfl hd hl k) w
theorem s_aloadN {k : Fin 4} {v : Value} (h : At T m c below) (hx : tb.exec = Jvm.exec) (hd : decode c.code pc = .ok (.aload_n k, 1)) (hp : pc + 1 = pc') (hl : ls[k.val]? = some (.val v)) (hv : v.isRef = true) (w : Win tb e below P (T.setTop (mkF m pc' ls (v :: st)))) : Win tb e below P (T.setTop (mkF m pc ls st)) := by
  subst hp; exact Win.go (fun _ k => XS.aloadN h hx rfl hd hl hv k) w
theorem s_aload {k : Nat} {v : Value} (h : At T m c below) (hx : tb.exec = Jvm.exec) (hd : decode c.code pc = .ok (.aload k, 2)) (hp : pc + 2 = pc') (hl : ls[k]? = some (.val v)) (hv : v.isRef = true) (w : Win tb e below P (T.setTop (mkF m pc' ls (v :: st)))) : Win tb e below P (T.setTop (mkF m pc ls st)) := by
  subst hp; exact Win.go (fun _ k => XS.aload h hx rfl hd hl hv k) w
theorem s_iadd {x y : Int32} (h : At T m c below) (hx : tb.exec = Jvm.exec) (hd : decode c.code pc = .ok (.iadd, 1)) (hp : pc + 1 = pc') (w : Win tb e below P (T.setTop (mkF m pc' ls (.int (x + y) :: st)))) : Win tb e below P (T.setTop (mkF m pc ls (.int y :: .int x :: st))) := by
  subst hp; exact Win.go (fun _ k => XS.iadd h hx rfl hd rfl k) w
theorem s_isub {x y : Int32} (h : At T m c below) (hx : tb.exec = Jvm.exec) (hd : decode c.code pc = .ok (.isub, 1)) (hp : pc + 1 = pc') (w : Win tb e below P (T.setTop (mkF m pc' ls (.int (x - y) :: st)))) : Win tb e below P (T.setTop (mkF m pc ls (.int y :: .int x :: st))) := by
  subst hp; exact Win.go (fun _ k => XS.isub h hx rfl hd rfl k) w
theorem s_imul {x y : Int32} (h : At T m c below) (hx : tb.exec = Jvm.exec) (hd : decode c.code pc = .ok (.imul, 1)) (hp : pc + 1 = pc') (w : Win tb e below P (T.setTop (mkF m pc' ls (.int (x * y) :: st)))) : Win tb e below P (T.setTop (mkF m pc ls (.int y :: .int x :: st))) := by
  subst hp; exact Win.go (fun _ k => XS.imul h hx rfl hd rfl k) w
theorem s_iand {x y : Int32} (h : At T m c below) (hx : tb.exec = Jvm.exec) (hd : decode c.code pc = .ok (.iand, 1)) (hp : pc + 1 = pc') (w : Win tb e below P (T.setTop (mkF m pc' ls (.int (x &&& y) :: st)))) : Win tb e below P (T.setTop (mkF m pc ls (.int y :: .int x :: st))) := by
  subst hp; exact Win.go (fun _ k => XS.iand h hx rfl hd rfl k) w
theorem s_ior {x y : Int32} (h : At T m c below) (hx : tb.exec = Jvm.exec) (hd : decode c.code pc = .ok (.ior, 1)) (hp : pc + 1 = pc') (w : Win tb e below P (T.setTop (mkF m pc' ls (.int (x ||| y) :: st)))) : Win tb e below P (T.setTop (mkF m pc ls (.int y :: .int x :: st))) := by
  subst hp; exact Win.go (fun _ k => XS.ior h hx rfl hd rfl k) w
theorem s_ixor {x y : Int32} (h : At T m c below) (hx : tb.exec = Jvm.exec) (hd : decode c.code pc = .ok (.ixor, 1)) (hp : pc + 1 = pc') (w : Win tb e below P (T.setTop (mkF m pc' ls (.int (x ^^^ y) :: st)))) : Win tb e below P (T.setTop (mkF m pc ls (.int y :: .int x :: st))) := by
  subst hp; exact Win.go (fun _ k => XS.ixor h hx rfl hd rfl k) w
theorem s_ladd {x y : Int64} (h : At T m c below) (hx : tb.exec = Jvm.exec) (hd : decode c.code pc = .ok (.ladd, 1)) (hp : pc + 1 = pc') (w : Win tb e below P (T.setTop (mkF m pc' ls (.long (x + y) :: st)))) : Win tb e below P (T.setTop (mkF m pc ls (.long y :: .long x :: st))) := by
  subst hp; exact Win.go (fun _ k => XS.ladd h hx rfl hd rfl k) w
theorem s_lsub {x y : Int64} (h : At T m c below) (hx : tb.exec = Jvm.exec) (hd : decode c.code pc = .ok (.lsub, 1)) (hp : pc + 1 = pc') (w : Win tb e below P (T.setTop (mkF m pc' ls (.long (x - y) :: st)))) : Win tb e below P (T.setTop (mkF m pc ls (.long y :: .long x :: st))) := by
  subst hp; exact Win.go (fun _ k => XS.lsub h hx rfl hd rfl k) w
theorem s_lmul {x y : Int64} (h : At T m c below) (hx : tb.exec = Jvm.exec) (hd : decode c.code pc = .ok (.lmul, 1)) (hp : pc + 1 = pc') (w : Win tb e below P (T.setTop (mkF m pc' ls (.long (x * y) :: st)))) : Win tb e below P (T.setTop (mkF m pc ls (.long y :: .long x :: st))) := by
  subst hp; exact Win.go (fun _ k => XS.lmul h hx rfl hd rfl k) w
theorem s_land {x y : Int64} (h : At T m c below) (hx : tb.exec = Jvm.exec) (hd : decode c.code pc = .ok (.land, 1)) (hp : pc + 1 = pc') (w : Win tb e below P (T.setTop (mkF m pc' ls (.long (x &&& y) :: st)))) : Win tb e below P (T.setTop (mkF m pc ls (.long y :: .long x :: st))) := by
  subst hp; exact Win.go (fun _ k => XS.land h hx rfl hd rfl k) w
theorem s_lor {x y : Int64} (h : At T m c below) (hx : tb.exec = Jvm.exec) (hd : decode c.code pc = .ok (.lor, 1)) (hp : pc + 1 = pc') (w : Win tb e below P (T.setTop (mkF m pc' ls (.long (x ||| y) :: st)))) : Win tb e below P (T.setTop (mkF m pc ls (.long y :: .long x :: st))) := by
  subst hp; exact Win.go (fun _ k => XS.lor h hx rfl hd rfl k) w
theorem s_lxor {x y : Int64} (h : At T m c below) (hx : tb.exec = Jvm.exec) (hd : decode c.code pc = .ok (.lxor, 1)) (hp : pc + 1 = pc') (w : Win tb e below P (T.setTop (mkF m pc' ls (.long (x ^^^ y) :: st)))) : Win tb e below P (T.setTop (mkF m pc ls (.long y :: .long x :: st))) := by
  subst hp; exact Win.go (fun _ k => XS.lxor h hx rfl hd rfl k) w
theorem s_iconst {i : Int} {z : Int32} (h : At T m c below) (hx : tb.exec = Jvm.exec) (hd : decode c.code pc = .ok (.iconst i, 1)) (hp : pc + 1 = pc') (hz : Int32.ofInt i = z) (w : Win tb e below P (T.setTop (mkF m pc' ls (.int z :: st)))) : Win tb e below P (T.setTop (mkF m pc ls st)) := by
  subst hp hz; exact Win.go (fun _ k => XS.iconst h hx rfl hd k) w
theorem s_bipush {i : Int} {z : Int32} (h : At T m c below) (hx : tb.exec = Jvm.exec) (hd : decode c.code pc = .ok (.bipush i, 2)) (hp : pc + 2 = pc') (hz : (Int8.ofInt i).toInt32 = z) (w : Win tb e below P (T.setTop (mkF m pc' ls (.int z :: st)))) : Win tb e below P (T.setTop (mkF m pc ls st)) := by
  subst hp hz; exact Win.go (fun _ k => XS.bipush h hx rfl hd k) w
theorem s_sipush {i : Int} {z : Int32} (h : At T m c below) (hx : tb.exec = Jvm.exec) (hd : decode c.code pc = .ok (.sipush i, 3)) (hp : pc + 3 = pc') (hz : (Int16.ofInt i).toInt32 = z) (w : Win tb e below P (T.setTop (mkF m pc' ls (.int z :: st)))) : Win tb e below P (T.setTop (mkF m pc ls st)) := by
  subst hp hz; exact Win.go (fun _ k => XS.sipush h hx rfl hd k) w
theorem s_lconst {i : Fin 2} {z : Int64} (h : At T m c below) (hx : tb.exec = Jvm.exec) (hd : decode c.code pc = .ok (.lconst i, 1)) (hp : pc + 1 = pc') (hz : Int64.ofNat i = z) (w : Win tb e below P (T.setTop (mkF m pc' ls (.long z :: st)))) : Win tb e below P (T.setTop (mkF m pc ls st)) := by
  subst hp hz; exact Win.go (fun _ k => XS.lconst h hx rfl hd k) w
theorem s_goto {o : Int} (h : At T m c below) (hx : tb.exec = Jvm.exec) (hd : decode c.code pc = .ok (.goto o, 3)) (ho : 0 ≤ (pc : Int) + o) (hp : ((pc : Int) + o).toNat = pc') (w : Win tb e below P (T.setTop (mkF m pc' ls st))) : Win tb e below P (T.setTop (mkF m pc ls st)) := by
  exact Win.go (fun _ k => XS.goto h hx rfl rfl hd ho hp k) w
theorem s_icmpYes {cd : ClassFile.Cond} {o : Int} {x y : Int32} (h : At T m c below) (hx : tb.exec = Jvm.exec) (hd : decode c.code pc = .ok (.if_icmp cd o, 3)) (hc : if_icmp.holds cd x y = true) (ho : 0 ≤ (pc : Int) + o) (hp : ((pc : Int) + o).toNat = pc') (w : Win tb e below P (T.setTop (mkF m pc' ls st))) : Win tb e below P (T.setTop (mkF m pc ls (.int y :: .int x :: st))) := by
  exact Win.go (fun _ k => XS.icmpYes h hx rfl rfl hd rfl hc ho hp k) w
theorem s_icmpNo {cd : ClassFile.Cond} {o : Int} {x y : Int32} (h : At T m c below) (hx : tb.exec = Jvm.exec) (hd : decode c.code pc = .ok (.if_icmp cd o, 3)) (hp : pc + 3 = pc') (hc : if_icmp.holds cd x y = false) (w : Win tb e below P (T.setTop (mkF m pc' ls st))) : Win tb e below P (T.setTop (mkF m pc ls (.int y :: .int x :: st))) := by
  subst hp; exact Win.go (fun _ k => XS.icmpNo h hx rfl hd rfl hc k) w
theorem s_ifYes {cd : ClassFile.Cond} {o : Int} {x : Int32} (h : At T m c below) (hx : tb.exec = Jvm.exec) (hd : decode c.code pc = .ok (.ifCond cd o, 3)) (hc : ifCond.holds cd x = true) (ho : 0 ≤ (pc : Int) + o) (hp : ((pc : Int) + o).toNat = pc') (w : Win tb e below P (T.setTop (mkF m pc' ls st))) : Win tb e below P (T.setTop (mkF m pc ls (.int x :: st))) := by
  exact Win.go (fun _ k => XS.ifYes h hx rfl rfl hd rfl hc ho hp k) w
theorem s_ifNo {cd : ClassFile.Cond} {o : Int} {x : Int32} (h : At T m c below) (hx : tb.exec = Jvm.exec) (hd : decode c.code pc = .ok (.ifCond cd o, 3)) (hp : pc + 3 = pc') (hc : ifCond.holds cd x = false) (w : Win tb e below P (T.setTop (mkF m pc' ls st))) : Win tb e below P (T.setTop (mkF m pc ls (.int x :: st))) := by
  subst hp; exact Win.go (fun _ k => XS.ifNo h hx rfl hd rfl hc k) w
theorem s_lcmp {x y : Int64} (h : At T m c below) (hx : tb.exec = Jvm.exec) (hd : decode c.code pc = .ok (.lcmp, 1)) (hp : pc + 1 = pc') (w : Win tb e below P (T.setTop (mkF m pc' ls (.int (lcmpW x y) :: st)))) : Win tb e below P (T.setTop (mkF m pc ls (.long y :: .long x :: st))) := by
  subst hp; exact Win.go (fun _ k => XS.lcmp h hx rfl hd rfl k) w
theorem s_istore {k : Nat} {x : Int32} {l' : Array Slot} (h : At T m c below) (hx : tb.exec = Jvm.exec) (hd : decode c.code pc = .ok (.istore k, 2)) (hp : pc + 2 = pc') (hl : storeLocals ls k (.int x) = some l') (w : Win tb e below P (T.setTop (mkF m pc' l' st))) : Win tb e below P (T.setTop (mkF m pc ls (.int x :: st))) := by
  subst hp; exact Win.go (fun _ k => XS.istore h hx rfl hd rfl hl k) w
theorem s_istoreN {k : Fin 4} {x : Int32} {l' : Array Slot} (h : At T m c below) (hx : tb.exec = Jvm.exec) (hd : decode c.code pc = .ok (.istore_n k, 1)) (hp : pc + 1 = pc') (hl : storeLocals ls k.val (.int x) = some l') (w : Win tb e below P (T.setTop (mkF m pc' l' st))) : Win tb e below P (T.setTop (mkF m pc ls (.int x :: st))) := by
  subst hp; exact Win.go (fun _ k => XS.istoreN h hx rfl hd rfl hl k) w
theorem s_lstore {k : Nat} {x : Int64} {l' : Array Slot} (h : At T m c below) (hx : tb.exec = Jvm.exec) (hd : decode c.code pc = .ok (.lstore k, 2)) (hp : pc + 2 = pc') (hl : storeLocals ls k (.long x) = some l') (w : Win tb e below P (T.setTop (mkF m pc' l' st))) : Win tb e below P (T.setTop (mkF m pc ls (.long x :: st))) := by
  subst hp; exact Win.go (fun _ k => XS.lstore h hx rfl hd rfl hl k) w
theorem s_lstoreN {k : Fin 4} {x : Int64} {l' : Array Slot} (h : At T m c below) (hx : tb.exec = Jvm.exec) (hd : decode c.code pc = .ok (.lstore_n k, 1)) (hp : pc + 1 = pc') (hl : storeLocals ls k.val (.long x) = some l') (w : Win tb e below P (T.setTop (mkF m pc' l' st))) : Win tb e below P (T.setTop (mkF m pc ls (.long x :: st))) := by
  subst hp; exact Win.go (fun _ k => XS.lstoreN h hx rfl hd rfl hl k) w
theorem s_astore {k : Nat} {x : Value} {l' : Array Slot} (h : At T m c below) (hx : tb.exec = Jvm.exec) (hd : decode c.code pc = .ok (.astore k, 2)) (hp : pc + 2 = pc') (hv : x.isRef = true) (hl : storeLocals ls k x = some l') (w : Win tb e below P (T.setTop (mkF m pc' l' st))) : Win tb e below P (T.setTop (mkF m pc ls (x :: st))) := by
  subst hp; exact Win.go (fun _ k => XS.astore h hx rfl hd rfl hv hl k) w
theorem s_astoreN {k : Fin 4} {x : Value} {l' : Array Slot} (h : At T m c below) (hx : tb.exec = Jvm.exec) (hd : decode c.code pc = .ok (.astore_n k, 1)) (hp : pc + 1 = pc') (hv : x.isRef = true) (hl : storeLocals ls k.val x = some l') (w : Win tb e below P (T.setTop (mkF m pc' l' st))) : Win tb e below P (T.setTop (mkF m pc ls (x :: st))) := by
  subst hp; exact Win.go (fun _ k => XS.astoreN h hx rfl hd rfl hv hl k) w
theorem s_dup {x : Value} (h : At T m c below) (hx : tb.exec = Jvm.exec) (hd : decode c.code pc = .ok (.dup, 1)) (hp : pc + 1 = pc') (hc : x.category = 1) (w : Win tb e below P (T.setTop (mkF m pc' ls (x :: x :: st)))) : Win tb e below P (T.setTop (mkF m pc ls (x :: st))) := by
  subst hp; exact Win.go (fun _ k => XS.dup h hx rfl hd rfl hc k) w
end Steps
/-- an array of ints by its places: place j holds f j -/
def AF (Z : State) (h : Heap) (a : Addr) (ty : FieldType) (n : Nat) (f : Int → Int32) : Prop := ∃ cl : Cell, Arr Z h a cl ty ∧ cl.slots.size = n ∧ ∀ j : Int32, 0 ≤ j.toInt → j.toInt < n → cl.slots[j.toNatClampNeg]? = some (.int (f j.toInt))
section AFs
variable {Z : State} {h h' : Heap} {a b : Addr} {ty : FieldType} {n : Nat} {f : Int → Int32} {ws : List Addr} {sl : Nat} {v : Value}
theorem AF.lt (F : AF Z h a ty n f) : a < h.size := by obtain ⟨c, A, -⟩ := F; exact A.lt
theorem AF.ext (F : AF Z h a ty n f) (E : Ext h h') : AF Z h' a ty n f := by obtain ⟨c, A, r⟩ := F; exact ⟨c, A.ext E, r⟩
theorem AF.other (F : AF Z h b ty n f) (W : Wr h h' a sl v) (q : b ≠ a) : AF Z h' b ty n f := by obtain ⟨c, A, r⟩ := F; exact ⟨c, A.other W q, r⟩
theorem AF.keep (F : AF Z h a ty n f) (K : Keep h h' ws) (q : a ∉ ws) : AF Z h' a ty n f := by obtain ⟨c, A, r⟩ := F; exact ⟨c, ⟨K.2.1 a c A.1 q, A.2⟩, r⟩
theorem AF.inb {c : Cell} {j : Int32} (S : c.slots.size = n) (q : 0 ≤ j.toInt ∧ j.toInt < n) : ¬ (j < 0 ∨ c.slots.size ≤ j.toNatClampNeg) := by
  rw [S, Int32.lt_iff_toInt_lt]; have e0 : (0 : Int32).toInt = 0 := rfl
  simp only [Int32.toNatClampNeg]; omega
def updF (f : Int → Int32) (j : Int) (v : Int32) : Int → Int32 := fun i => if i = j then v else f i
theorem updF_hit (f : Int → Int32) (j : Int) (v : Int32) : updF f j v j = v := if_pos rfl
theorem updF_miss {f : Int → Int32} {i j : Int} {v : Int32} (q : i ≠ j) : updF f j v i = f i := if_neg q
theorem AF.set {cl : Cell} {j v : Int32} (A : Arr Z h a cl ty) (S : cl.slots.size = n) (G : ∀ j : Int32, 0 ≤ j.toInt → j.toInt < n → cl.slots[j.toNatClampNeg]? = some (.int (f j.toInt))) (W : Wr h h' a j.toNatClampNeg (.int v)) (q : 0 ≤ j.toInt ∧ j.toInt < n) : AF Z h' a ty n (updF f j.toInt v) := by
  have e0 : (0 : Int32).toInt = 0 := rfl
  refine ⟨_, A.same W, by rw [sz_set]; exact S, fun k h0 h1 => ?_⟩
  by_cases e : k = j
  · subst e; rw [get_hit (AF.inb S q) rfl, updF_hit]
  · rw [get_miss (by rw [Int32.lt_iff_toInt_lt]; omega) (by rw [Int32.lt_iff_toInt_lt]; omega) e, updF_miss (fun z => e (Int32.toInt_inj.mp z))]; exact G k h0 h1
theorem AF.zero {k : ClassId} {z : Int32} (F : Arv Z h a k ty z [] (.int 0)) (q : z.toNatClampNeg = n) : AF Z h a ty n (fun _ => 0) := by
  obtain ⟨c, A, -, S, -, H, -⟩ := F
  refine ⟨c, A, S.trans q, fun j h0 h1 => ?_⟩
  have e : j.toNatClampNeg = j.toInt.toNat := rfl
  exact H _ (by rw [S, q, e]; omega)
theorem AF.ex {k : ClassId} {z : Int32} {vs : List Value} {dv : Value} (F : Arv Z h a k .byte z vs dv) (q : z.toNatClampNeg = n) : ∃ f, AF Z h a .byte n f := by
  obtain ⟨c, A, -, S, -, H, G⟩ := F
  refine ⟨fun i => match c.slots[i.toNat]? with | some (.int x) => x | _ => 0, c, A, S.trans q, fun j h0 h1 => ?_⟩
  have e : j.toNatClampNeg = j.toInt.toNat := rfl
  have hj : j.toInt.toNat < c.slots.size := by rw [S, q]; omega
  have e1 := H _ hj
  have e2 := G _ hj
  show c.slots[j.toInt.toNat]? = some (.int (match c.slots[j.toInt.toNat]? with | some (.int x) => x | _ => 0))
  cases hv : vs.getD j.toInt.toNat dv <;> rw [hv] at e1 e2 <;> first | (rw [e1]; done) | (exact absurd e2 (by simp [fits]))
/-- a byte array of length z -/
def BA (Z : State) (h : Heap) (a : Addr) (z : Int32) : Prop := ∃ (k : ClassId) (vs : List Value), Arv Z h a k .byte z vs (.int 0)
variable {z : Int32}
theorem BA.lt (F : BA Z h a z) : a < h.size := by obtain ⟨_, _, A⟩ := F; exact A.lt
theorem BA.ext (F : BA Z h a z) (E : Ext h h') : BA Z h' a z := by obtain ⟨k, vs, A⟩ := F; exact ⟨k, vs, A.ext E⟩
theorem BA.other (F : BA Z h b z) (W : Wr h h' a sl v) (q : b ≠ a) : BA Z h' b z := by obtain ⟨k, vs, A⟩ := F; exact ⟨k, vs, A.other W q⟩
theorem BA.keep (F : BA Z h a z) (K : Keep h h' ws) (q : a ∉ ws) : BA Z h' a z := by obtain ⟨k, vs, A⟩ := F; exact ⟨k, vs, A.keep K q⟩
theorem cpBA {p : Program} {l : Launch} {e : Env} {R : Room} {s : State} {m : MethodId} {args : Array Value} {below : List Frame} {meth : Method} {c : Code} {T : State} {locs : List Loc} {cells slots : Nat}
    (X : Stand p l e R s m args below meth c T locs cells slots) (hx : p.tables.exec = Jvm.exec) (hZ : Z.Warmed39 s.vm) {a0 : Array Value} {own : String} {index : Nat} (hown : s.vm.findClass own = some m.cls)
    (w1 : (Cond.methodLink own index Jvm.Stand.acN).before a0 Z = true) (w2 : (Cond.native Jvm.Stand.acN).before a0 Z = true) (w3 : (Cond.static Jvm.Stand.acN).before a0 Z = true) (w4 : (Cond.initialized "java/lang/System").before a0 Z = true) (eT : T.heap = h)
    {z' sp dp nn : Int32} (A : BA Z h a z) (B : BA Z h b z') (h1 : 0 ≤ sp.toInt) (h2 : 0 ≤ dp.toInt) (h3 : 0 ≤ nn.toInt) (h4 : sp.toInt + nn.toInt ≤ z.toInt) (h5 : dp.toInt + nn.toInt ≤ z'.toInt) {n0 : Nat} (N : Fr n0 locs) (ge : n0 ≤ b)
    {g : JFrame} (hg : g.method = m) (hsize : g.locals.size = c.maxLocals) {rest : List Value} (hs : g.stack = .int nn :: .int dp :: .ref b :: .int sp :: .ref a :: rest) (hd : decode c.code g.pc = .ok (.invokestatic index, 3))
    (hf : 1 ≤ R.frames) {W : Nat} (hW : 2 * g.monitorRoom + (rest.map fun v => v.category).sum ≤ W) (hlo : W + (nativeFrameWords "java/lang/System" "arraycopy" 5 + 11) ≤ R.locals) :
    ∃ T' h' L, Stand p l e R s m args below meth c T' L cells slots ∧ T'.heap = h' ∧ Fr n0 L ∧ Keep h h' [b] ∧ BA Z h' b z' ∧
      ∀ target, Steps p.tables e below (T'.setTop { g with pc := g.pc + 3, stack := rest }) target → Steps p.tables e below (T.setTop g) target := by
  have e0 : (0 : Int32).toInt = 0 := rfl
  obtain ⟨k, vs, A⟩ := A
  obtain ⟨k', vd, B⟩ := B
  have B' := B.pad (pad_rep vd (.int 0) z'.toNatClampNeg)
  obtain ⟨T', h', L, X', e', N', K, B2, st⟩ := cpA X hx hZ hown w1 w2 w3 w4 eT A B' (Or.inl ⟨rfl, rfl⟩) (by rw [Int32.lt_iff_toInt_lt]; omega) (by rw [Int32.lt_iff_toInt_lt]; omega) (by rw [Int32.lt_iff_toInt_lt]; omega) (by simp only [Int32.toNatClampNeg]; omega) (by simp only [Int32.toNatClampNeg]; omega) rfl (by simp only [List.length_append, List.length_replicate, Int32.toNatClampNeg]; omega) N ge hg hsize hs hd hf hW hlo
  exact ⟨T', h', L, X', e', N', K, ⟨k', _, B2⟩, st⟩
end AFs
theorem own_selPriv {s : State} {args : Array Value} {y y' : MethodName} (hn : y.cls = y'.cls) (w : (Cond.selects y'.cls y' y').before args s = true) (hpriv : s.PrivateAt y) (hinst : (Cond.instanceMethod y).before args s = true) (hy : y.cls ≠ "java/lang/invoke/MethodHandle" ∧ y.cls ≠ "java/lang/invoke/VarHandle") : (Cond.selects y.cls y y).before args s = true := by
  obtain ⟨c, r, m, h1, -, h3, -, k, h5, h6⟩ := Cond.selects_spec w
  have h7 := findClass_of_methodNamed h3
  cases h1.symm.trans h7
  exact selects_self_of_private (by rw [hn]; exact h7) h5 h6 hpriv hinst hy
theorem own_lremEq (x y : Int64) : x - (x / y) * y = x % y := by
  refine Int64.toInt_inj.mp ?_
  have h1 := rng64 (x % y)
  have e : x.toInt - x.toInt.tdiv y.toInt * y.toInt = (x % y).toInt := by rw [Int64.toInt_mod, Int.tmod_def, Int.mul_comm]
  rw [Int64.toInt_sub, Int64.toInt_mul, Int64.toInt_div, Int.bmod_mul_bmod, Int.sub_bmod_bmod, e]
  exact Int.bmod_eq_of_le_mul_two (by omega) (by omega)
theorem lremM {p : Program} {l : Launch} {e : Env} {R : Room} {s : State} {m : MethodId} {args : Array Value} {below : List Frame} {meth : Method} {c : Code} {T : State} {locs : List Loc} {cells slots : Nat} {g : JFrame} {target : State} (X : Stand p l e R s m args below meth c T locs cells slots) (hx : p.tables.exec = Jvm.exec) (hg : g.method = m) {x y : Int64} {rest : List Value} (hd : decode c.code g.pc = .ok (.lrem, 1)) (hs : g.stack = .long y :: .long x :: rest) (hy : y ≠ 0)
    (hr : Steps p.tables e below (T.setTop { g with pc := g.pc + 1, stack := .long (x % y) :: rest }) target) : Steps p.tables e below (T.setTop g) target :=
  XS.lrem X.here hx hg hd hs hy (by rw [own_lremEq]; exact hr)
/-! comparisons by the numbers -/
theorem tltI {x y : Int32} (h : x.toInt < y.toInt) : if_icmp.holds .lt x y = true ∧ if_icmp.holds .ge x y = false ∧ if_icmp.holds .gt y x = true ∧ if_icmp.holds .le y x = false := tlt (Int32.lt_iff_toInt_lt.mpr h)
theorem fltI {x y : Int32} (h : ¬ x.toInt < y.toInt) : if_icmp.holds .lt x y = false ∧ if_icmp.holds .ge x y = true ∧ if_icmp.holds .gt y x = false ∧ if_icmp.holds .le y x = true := flt (fun q => h (Int32.lt_iff_toInt_lt.mp q))
theorem teqI {x y : Int32} (h : x.toInt = y.toInt) : if_icmp.holds .eq x y = true ∧ if_icmp.holds .ne x y = false := teq (Int32.toInt_inj.mp h)
theorem feqI {x y : Int32} (h : ¬ x.toInt = y.toInt) : if_icmp.holds .eq x y = false ∧ if_icmp.holds .ne x y = true := feq (fun q => h (congrArg _ q))
theorem tltZ {x y : Int32} (h : x.toInt < y.toInt) : (y = 0 → ifCond.holds .lt x = true ∧ ifCond.holds .ge x = false) ∧ (x = 0 → ifCond.holds .gt y = true ∧ ifCond.holds .le y = false) :=
  ⟨fun q => by subst q; exact ⟨(if0 _ _).trans (tltI h).1, (if0 _ _).trans (tltI h).2.1⟩, fun q => by subst q; exact ⟨(if0 _ _).trans (tltI h).2.2.1, (if0 _ _).trans (tltI h).2.2.2⟩⟩
theorem tltL {x y : Int64} (h : x.toInt < y.toInt) : ifCond.holds .lt (lcmpW x y) = true ∧ ifCond.holds .ge (lcmpW x y) = false ∧ ifCond.holds .gt (lcmpW y x) = true ∧ ifCond.holds .le (lcmpW y x) = false :=
  have h' := Int64.lt_iff_toInt_lt.mpr h
  ⟨(if0 _ _).trans (tlt ((lw_lt x y).mpr h')).1, (if0 _ _).trans (tlt ((lw_lt x y).mpr h')).2.1, (if0 _ _).trans (tlt ((lw_gt y x).mpr h')).2.2.1, (if0 _ _).trans (tlt ((lw_gt y x).mpr h')).2.2.2⟩
theorem fltL {x y : Int64} (h : ¬ x.toInt < y.toInt) : ifCond.holds .lt (lcmpW x y) = false ∧ ifCond.holds .ge (lcmpW x y) = true ∧ ifCond.holds .gt (lcmpW y x) = false ∧ ifCond.holds .le (lcmpW y x) = true :=
  have h1 : ¬ lcmpW x y < 0 := fun q => h (Int64.lt_iff_toInt_lt.mp ((lw_lt x y).mp q))
  have h2 : ¬ 0 < lcmpW y x := fun q => h (Int64.lt_iff_toInt_lt.mp ((lw_gt y x).mp q))
  ⟨(if0 _ _).trans (flt h1).1, (if0 _ _).trans (flt h1).2.1, (if0 _ _).trans (flt h2).2.2.1, (if0 _ _).trans (flt h2).2.2.2⟩
theorem teqL {x y : Int64} (h : x.toInt = y.toInt) : ifCond.holds .eq (lcmpW x y) = true ∧ ifCond.holds .ne (lcmpW x y) = false :=
  have h' := (lw_eq x y).mpr (Int64.toInt_inj.mp h)
  ⟨(if0 _ _).trans (teq h').1, (if0 _ _).trans (teq h').2⟩
theorem feqL {x y : Int64} (h : ¬ x.toInt = y.toInt) : ifCond.holds .eq (lcmpW x y) = false ∧ ifCond.holds .ne (lcmpW x y) = true :=
  have h' : ¬ lcmpW x y = 0 := fun q => h (congrArg _ ((lw_eq x y).mp q))
  ⟨(if0 _ _).trans (feq h').1, (if0 _ _).trans (feq h').2⟩
end Jvm.OwnWalk
namespace Jvm.Pilot.@@N@@
open Jvm Jvm.ClassFile Sem Op Lib Jvm.Free Jvm.Stand Jvm.LawKit Jvm.RoadKit Bundle Jvm.OwnWalk Jvm.Pilot.@@N@@.Jvm.D
theorem own_m62 (x : Int64) : (x &&& (4611686018427387903 : Int64)).toInt = x.toInt % 4611686018427387904 := c_maskL x 4611686018427387903 62 (by decide) (by decide)
theorem d2_0 : decode jdk_30_method_1_code 0 = .ok (.aload_n 0, 1) := by decide +kernel
theorem d2_1 : decode jdk_30_method_1_code 1 = .ok (.invokespecial 1, 3) := by decide +kernel
theorem d2_4 : decode jdk_30_method_1_code 4 = .ok (.return_, 1) := by decide +kernel
theorem pn_2 : plainName "java/lang/Record" = true := by first | (simp [plainName, overriddenIn]; done) | decide +kernel
theorem ef_2 (m : MethodId) (a : Addr) : entryFrame m #[(.ref a)] 1 = mkF m 0 #[.val (.ref a)] [] := by first | (simp [entryFrame, mkF, argsToLocals, Value.category]; done) | rfl
def Q2 (Z : State) (a : Addr) (h0 : Heap) (n0 : Nat) (v : Option Value) (h : Heap) (L : List Loc) : Prop := Fr n0 L ∧ h = h0 ∧ v = none
set_option maxRecDepth 65536 in
set_option maxHeartbeats 40000000 in
theorem rm2 (l : Launch) (Z : State) (a0 : Array Value) (hw : ∀ d ∈ tables_1, d.before a0 Z = true) (ws : List Jvm.Cond) (a : Addr) (h0 : Heap) (n0 : Nat) (Zs : n0 ≤ h0.size) :
    MetFree l (⟨"java/lang/Record", "<init>", "()V"⟩ : MethodName) (head1 (Jvm.Cond.code (⟨"java/lang/Record", "<init>", "()V"⟩ : MethodName) jdk_30_method_1_code 1 none :: ws) ({ frames := 1, cells := 0, slots := 0, locals := 12 } : Room)) (fun as' U => as' = #[(.ref a)] ∧ Z.Warmed39 U.vm ∧ U.heap = h0) (fun _ _ _ _ _ => True) (fun _ U o U' => ∃ v L, o = .returned v ∧ Q2 Z a h0 n0 v U'.heap L ∧ FrameEnd U o U' L ({ frames := 1, cells := 0, slots := 0, locals := 12 } : Room).cells ({ frames := 1, cells := 0, slots := 0, locals := 12 } : Room).slots) := by
  refine MetFree.of_bodySF (plainFor_of_name pn_2) hisR ?_
  intro p e s m args below meth c s₁ Bd hml0 hP hK
  obtain ⟨rfl, hZ, hh⟩ := hP
  have hx := Bd.exec
  have hby := Bd.bytes
  have hml : c.maxLocals = 1 := hml0
  have hown : s.vm.findClass "java/lang/Record" = some m.cls := findClass_of_methodNamed Bd.named
  have hnm := (name_of_methodNamed Bd.named Bd.method).1
  have hlk : meth.locks = false := Bd.notSynchronized
  have X0 : Stand p l e ({ frames := 1, cells := 0, slots := 0, locals := 12 } : Room) s m #[(.ref a)] below meth c s₁ [] 0 0 := Stand.of_body Bd
  have e0 : s₁.heap = h0 := by rw [← hh, Bd.state]; rfl
  have Nf := Fr.nil n0
  refine (?_ : Win p.tables e below (PostQ s (Q2 Z a h0 n0) ({ frames := 1, cells := 0, slots := 0, locals := 12 } : Room).cells ({ frames := 1, cells := 0, slots := 0, locals := 12 } : Room).slots) (s₁.setTop (entryFrame m #[(.ref a)] 1)))
  rw [ef_2]
  show Win p.tables e below _ (s₁.setTop (mkF m 0 #[.val (.ref a)] []))
  refine s_aloadN (pc' := 1) X0.here hx (hb hby d2_0) rfl rfl rfl ?_
  obtain ⟨T_1, X_1, e_1, st_1⟩ := initO X0 hx hZ hown (hw _ (List.mem_of_getElem? (i := 12) rfl)) (hw _ (List.mem_of_getElem? (i := 13) rfl)) (hw _ (List.mem_of_getElem? (i := 14) rfl)) e0 (g := (mkF m 1 #[.val (.ref a)] [(.ref a)])) rfl (by rw [hml]; rfl) rfl (hb hby d2_1) (by decide) (W := 0) (by show 2 * 0 + _ ≤ _; exact Nat.le_of_eq rfl) (by decide)
  refine Win.go st_1 ?_
  show Win p.tables e below _ (T_1.setTop (mkF m 4 #[.val (.ref a)] []))
  refine winV X_1 hx hlk e_1 Bd.returns (hb hby d2_4) (by decide) (by decide) ?_
  exact ⟨Nf, rfl, rfl⟩
theorem d1_0 : decode prog_4_method_1_code 0 = .ok (.aload_n 0, 1) := by decide +kernel
theorem d1_1 : decode prog_4_method_1_code 1 = .ok (.invokespecial 1, 3) := by decide +kernel
theorem d1_4 : decode prog_4_method_1_code 4 = .ok (.aload_n 0, 1) := by decide +kernel
theorem d1_5 : decode prog_4_method_1_code 5 = .ok (.lload_n 1, 1) := by decide +kernel
theorem d1_6 : decode prog_4_method_1_code 6 = .ok (.putfield 7, 3) := by decide +kernel
theorem d1_9 : decode prog_4_method_1_code 9 = .ok (.aload_n 0, 1) := by decide +kernel
theorem d1_10 : decode prog_4_method_1_code 10 = .ok (.lload_n 3, 1) := by decide +kernel
theorem d1_11 : decode prog_4_method_1_code 11 = .ok (.putfield 13, 3) := by decide +kernel
theorem d1_14 : decode prog_4_method_1_code 14 = .ok (.return_, 1) := by decide +kernel
theorem pn_1 : plainName "com/example/orbyt/orbyt/IndexRange" = true := by first | (simp [plainName, overriddenIn]; done) | decide +kernel
theorem pd_0 : parseMethodDescriptor "()V" = some ⟨[], none⟩ := by decide +kernel
theorem ef_1 (m : MethodId) (a : Addr) (q1 : Int64) (q2 : Int64) : entryFrame m #[(.ref a), (.long q1), (.long q2)] 5 = mkF m 0 #[.val (.ref a), .val (.long q1), .second, .val (.long q2), .second] [] := by first | (simp [entryFrame, mkF, argsToLocals, Value.category]; done) | rfl
def Q1 (Z : State) (a : Addr) (q1 : Int64) (q2 : Int64) (h0 : Heap) (n0 : Nat) (v : Option Value) (h : Heap) (L : List Loc) : Prop := Fr n0 L ∧ Keep h0 h [a] ∧ Fld Z h a "com/example/orbyt/orbyt/IndexRange" "first" "J" (.long q1) ∧ Fld Z h a "com/example/orbyt/orbyt/IndexRange" "last" "J" (.long q2) ∧ v = none
set_option maxRecDepth 65536 in
set_option maxHeartbeats 40000000 in
theorem rm1 (l : Launch) (Z : State) (a0 : Array Value) (hw : ∀ d ∈ tables_1, d.before a0 Z = true) (ws : List Jvm.Cond) (a : Addr) (q1 : Int64) (q2 : Int64) (h0 : Heap) (n0 : Nat) (Zs : n0 ≤ h0.size) (E_a : Exa Z h0 a "com/example/orbyt/orbyt/IndexRange") (F_first_a : Fld Z h0 a "com/example/orbyt/orbyt/IndexRange" "first" "J" (.long (0 : Int64))) (F_last_a : Fld Z h0 a "com/example/orbyt/orbyt/IndexRange" "last" "J" (.long (0 : Int64))) (g_a : n0 ≤ a) :
    MetFree l (⟨"com/example/orbyt/orbyt/IndexRange", "<init>", "(JJ)V"⟩ : MethodName) (head1 (Jvm.Cond.code (⟨"com/example/orbyt/orbyt/IndexRange", "<init>", "(JJ)V"⟩ : MethodName) prog_4_method_1_code 5 none :: ws) ({ frames := 2, cells := 0, slots := 0, locals := 24 } : Room)) (fun as' U => as' = #[(.ref a), (.long q1), (.long q2)] ∧ Z.Warmed39 U.vm ∧ U.heap = h0) (fun _ _ _ _ _ => True) (fun _ U o U' => ∃ v L, o = .returned v ∧ Q1 Z a q1 q2 h0 n0 v U'.heap L ∧ FrameEnd U o U' L ({ frames := 2, cells := 0, slots := 0, locals := 24 } : Room).cells ({ frames := 2, cells := 0, slots := 0, locals := 24 } : Room).slots) := by
  refine MetFree.of_bodySF (plainFor_of_name pn_1) hisR ?_
  intro p e s m args below meth c s₁ Bd hml0 hP hK
  obtain ⟨rfl, hZ, hh⟩ := hP
  have hx := Bd.exec
  have hby := Bd.bytes
  have hml : c.maxLocals = 5 := hml0
  have hown : s.vm.findClass "com/example/orbyt/orbyt/IndexRange" = some m.cls := findClass_of_methodNamed Bd.named
  have hnm := (name_of_methodNamed Bd.named Bd.method).1
  have hlk : meth.locks = false := Bd.notSynchronized
  have X0 : Stand p l e ({ frames := 2, cells := 0, slots := 0, locals := 24 } : Room) s m #[(.ref a), (.long q1), (.long q2)] below meth c s₁ [] 0 0 := Stand.of_body Bd
  have e0 : s₁.heap = h0 := by rw [← hh, Bd.state]; rfl
  have Nf := Fr.nil n0
  refine (?_ : Win p.tables e below (PostQ s (Q1 Z a q1 q2 h0 n0) ({ frames := 2, cells := 0, slots := 0, locals := 24 } : Room).cells ({ frames := 2, cells := 0, slots := 0, locals := 24 } : Room).slots) (s₁.setTop (entryFrame m #[(.ref a), (.long q1), (.long q2)] 5)))
  rw [ef_1]
  have Kp : Keep h0 h0 [a] := Keep.refl h0 _
  have lt_a : a < h0.size := E_a.lt
  show Win p.tables e below _ (s₁.setTop (mkF m 0 #[.val (.ref a), .val (.long q1), .second, .val (.long q2), .second] []))
  refine s_aloadN (pc' := 1) X0.here hx (hb hby d1_0) rfl rfl rfl ?_
  obtain ⟨_, _, ⟨T_2, L_2, k_2, n_2⟩, -, X_2, ⟨Lc_2, hQ_2, l_2, y_2, z_2⟩, st_2⟩ := X0.specialBack hx (y := (⟨"java/lang/Record", "<init>", "()V"⟩ : MethodName)) rfl hown (mvT hZ (hw _ (List.mem_of_getElem? (i := 7) rfl))) (mvT hZ (hw _ (List.mem_of_getElem? (i := 8) rfl))) (mvT hZ (hw _ (List.mem_of_getElem? (i := 11) rfl))) (by decide) (backOf (W := 0) (rm2 l Z a0 hw [] a h0 n0 Zs ) hZ (hw _ (List.mem_of_getElem? (i := 11) rfl)) (hw _ (List.mem_of_getElem? (i := 10) rfl)) (by decide) (by decide)) (g := (mkF m 1 #[.val (.ref a), .val (.long q1), .second, .val (.long q2), .second] [(.ref a)])) rfl (by rw [hml]; rfl) (Steps.refl _) (a := a) (argsL := []) (rest := []) (lenOf pd_0 rfl) rfl (by show 2 * 0 + _ ≤ _; exact Nat.le_of_eq rfl) (hb hby d1_1) (fun _ _ => ⟨rfl, e0, (by decide : 0 + 0 ≤ _), (by decide : 0 + 0 ≤ _)⟩)
  dsimp only [Pt.U, Pt.locs, Pt.cells, Pt.slots] at X_2 l_2 y_2 z_2 st_2 hQ_2
  subst l_2 y_2 z_2
  obtain ⟨Nq_2, e_2, rfl⟩ := hQ_2
  replace Nf := Fr.app Nf Nq_2
  refine Win.come st_2 ?_
  show Win p.tables e below _ (T_2.setTop (mkF m 4 #[.val (.ref a), .val (.long q1), .second, .val (.long q2), .second] []))
  refine s_aloadN (pc' := 5) X_2.here hx (hb hby d1_4) rfl rfl rfl ?_
  refine s_lloadN (pc' := 6) X_2.here hx (hb hby d1_5) rfl rfl ?_
  obtain ⟨T_3, h_3, X_3, e_3, W_3, st_3⟩ := putF X_2 hx hZ hown (host := "") (Or.inl (hw _ (List.mem_of_getElem? (i := 15) rfl))) Via.refl e_2 F_first_a E_a (Or.inr ⟨(hw _ (List.mem_of_getElem? (i := 16) rfl)), rfl, hnm⟩) (hw _ (List.mem_of_getElem? (i := 2) rfl)) (ty := .long) (by decide) rfl rfl (g := (mkF m 6 #[.val (.ref a), .val (.long q1), .second, .val (.long q2), .second] [(.long q1), (.ref a)])) rfl rfl (hb hby d1_6)
  replace E_a := E_a.wr W_3
  replace F_last_a := F_last_a.other W_3 (Or.inr (slot_ne (Or.inr (hw _ (List.mem_of_getElem? (i := 18) rfl))) (Or.inr (hw _ (List.mem_of_getElem? (i := 16) rfl))) (by decide) (t := .long) (t' := .long) (by decide) (by decide)))
  replace lt_a := Nat.lt_of_lt_of_le lt_a (Keep.of_wr W_3).1
  replace Zs := Nat.le_trans Zs (Keep.of_wr W_3).1
  replace Kp := Kp.wr W_3 (Or.inl (by simp))
  replace F_first_a := F_first_a.same W_3
  replace Nf := Fr.snoc X_3 Nf g_a
  refine Win.go st_3 ?_
  show Win p.tables e below _ (T_3.setTop (mkF m 9 #[.val (.ref a), .val (.long q1), .second, .val (.long q2), .second] []))
  refine s_aloadN (pc' := 10) X_3.here hx (hb hby d1_9) rfl rfl rfl ?_
  refine s_lloadN (pc' := 11) X_3.here hx (hb hby d1_10) rfl rfl ?_
  obtain ⟨T_4, h_4, X_4, e_4, W_4, st_4⟩ := putF X_3 hx hZ hown (host := "") (Or.inl (hw _ (List.mem_of_getElem? (i := 17) rfl))) Via.refl e_3 F_last_a E_a (Or.inr ⟨(hw _ (List.mem_of_getElem? (i := 18) rfl)), rfl, hnm⟩) (hw _ (List.mem_of_getElem? (i := 2) rfl)) (ty := .long) (by decide) rfl rfl (g := (mkF m 11 #[.val (.ref a), .val (.long q1), .second, .val (.long q2), .second] [(.long q2), (.ref a)])) rfl rfl (hb hby d1_11)
  replace E_a := E_a.wr W_4
  replace F_first_a := F_first_a.other W_4 (Or.inr (slot_ne (Or.inr (hw _ (List.mem_of_getElem? (i := 16) rfl))) (Or.inr (hw _ (List.mem_of_getElem? (i := 18) rfl))) (by decide) (t := .long) (t' := .long) (by decide) (by decide)))
  replace lt_a := Nat.lt_of_lt_of_le lt_a (Keep.of_wr W_4).1
  replace Zs := Nat.le_trans Zs (Keep.of_wr W_4).1
  replace Kp := Kp.wr W_4 (Or.inl (by simp))
  replace F_last_a := F_last_a.same W_4
  replace Nf := Fr.snoc X_4 Nf g_a
  refine Win.go st_4 ?_
  show Win p.tables e below _ (T_4.setTop (mkF m 14 #[.val (.ref a), .val (.long q1), .second, .val (.long q2), .second] []))
  refine winV X_4 hx hlk e_4 Bd.returns (hb hby d1_14) (by decide) (by decide) ?_
  exact ⟨Nf, Kp, F_first_a, F_last_a, rfl⟩
theorem d5_0 : decode jdk_29_method_66_code 0 = .ok (.lload_n 0, 1) := by decide +kernel
theorem d5_1 : decode jdk_29_method_66_code 1 = .ok (.lload_n 2, 1) := by decide +kernel
theorem d5_2 : decode jdk_29_method_66_code 2 = .ok (.lcmp, 1) := by decide +kernel
theorem d5_3 : decode jdk_29_method_66_code 3 = .ok (.ifCond .lt 7, 3) := by decide +kernel
theorem d5_6 : decode jdk_29_method_66_code 6 = .ok (.lload_n 0, 1) := by decide +kernel
theorem d5_7 : decode jdk_29_method_66_code 7 = .ok (.goto 4, 3) := by decide +kernel
theorem d5_10 : decode jdk_29_method_66_code 10 = .ok (.lload_n 2, 1) := by decide +kernel
theorem d5_11 : decode jdk_29_method_66_code 11 = .ok (.lreturn, 1) := by decide +kernel
theorem ef_5 (m : MethodId) (a : Int64) (b : Int64) : entryFrame m #[(.long a), (.long b)] 4 = mkF m 0 #[.val (.long a), .second, .val (.long b), .second] [] := by first | (simp [entryFrame, mkF, argsToLocals, Value.category]; done) | rfl
def Q5 (Z : State) (a : Int64) (b : Int64) (h0 : Heap) (n0 : Nat) (v : Option Value) (h : Heap) (L : List Loc) : Prop := Fr n0 L ∧ h = h0 ∧ (∃ z : Int64, v = some (.long z) ∧ (a.toInt ≤ z.toInt ∧ b.toInt ≤ z.toInt ∧ (z.toInt = a.toInt ∨ z.toInt = b.toInt)))
set_option maxRecDepth 65536 in
set_option maxHeartbeats 40000000 in
theorem rm5 (l : Launch) (Z : State) (a0 : Array Value) (hw : ∀ d ∈ tables_1, d.before a0 Z = true) (ws : List Jvm.Cond) (a : Int64) (b : Int64) (h0 : Heap) (n0 : Nat) (Zs : n0 ≤ h0.size) :
    MetFree l (⟨"java/lang/Math", "max", "(JJ)J"⟩ : MethodName) (head1 (Jvm.Cond.code (⟨"java/lang/Math", "max", "(JJ)J"⟩ : MethodName) jdk_29_method_66_code 4 (some .long) :: ws) ({ frames := 0, cells := 0, slots := 0, locals := 0 } : Room)) (fun as' U => as' = #[(.long a), (.long b)] ∧ Z.Warmed39 U.vm ∧ U.heap = h0) (fun _ _ _ _ _ => True) (fun _ U o U' => ∃ v L, o = .returned v ∧ Q5 Z a b h0 n0 v U'.heap L ∧ FrameEnd U o U' L ({ frames := 0, cells := 0, slots := 0, locals := 0 } : Room).cells ({ frames := 0, cells := 0, slots := 0, locals := 0 } : Room).slots) := by
  refine MetFree.of_bodySF (Jvm.Free.JP.mathPlain rfl (by decide +kernel)) hisR ?_
  intro p e s m args below meth c s₁ Bd hml0 hP hK
  obtain ⟨rfl, hZ, hh⟩ := hP
  have hx := Bd.exec
  have hby := Bd.bytes
  have hml : c.maxLocals = 4 := hml0
  have hown : s.vm.findClass "java/lang/Math" = some m.cls := findClass_of_methodNamed Bd.named
  have hnm := (name_of_methodNamed Bd.named Bd.method).1
  have hlk : meth.locks = false := Bd.notSynchronized
  have X0 : Stand p l e ({ frames := 0, cells := 0, slots := 0, locals := 0 } : Room) s m #[(.long a), (.long b)] below meth c s₁ [] 0 0 := Stand.of_body Bd
  have e0 : s₁.heap = h0 := by rw [← hh, Bd.state]; rfl
  have Nf := Fr.nil n0
  refine (?_ : Win p.tables e below (PostQ s (Q5 Z a b h0 n0) ({ frames := 0, cells := 0, slots := 0, locals := 0 } : Room).cells ({ frames := 0, cells := 0, slots := 0, locals := 0 } : Room).slots) (s₁.setTop (entryFrame m #[(.long a), (.long b)] 4)))
  rw [ef_5]
  show Win p.tables e below _ (s₁.setTop (mkF m 0 #[.val (.long a), .second, .val (.long b), .second] []))
  refine s_lloadN (pc' := 1) X0.here hx (hb hby d5_0) rfl rfl ?_
  refine s_lloadN (pc' := 2) X0.here hx (hb hby d5_1) rfl rfl ?_
  refine s_lcmp (pc' := 3) X0.here hx (hb hby d5_2) rfl ?_
  by_cases hc3 : (a).toInt < (b).toInt
  · skip
    refine s_ifYes (pc' := 10) X0.here hx (hb hby d5_3) (tltL (x := a) (y := b) hc3).1 (by decide) (by decide) ?_
    refine s_lloadN (pc' := 11) X0.here hx (hb hby d5_10) rfl rfl ?_
    refine winL X0 hx hlk e0 Bd.returns (hb hby d5_11) (by decide) (by decide) ?_
    exact ⟨Nf, rfl, _, rfl, by omega⟩
  · skip
    refine s_ifNo (pc' := 6) X0.here hx (hb hby d5_3) rfl (fltL (x := a) (y := b) hc3).1 ?_
    refine s_lloadN (pc' := 7) X0.here hx (hb hby d5_6) rfl rfl ?_
    refine s_goto (pc' := 11) X0.here hx (hb hby d5_7) (by decide) (by decide) ?_
    refine winL X0 hx hlk e0 Bd.returns (hb hby d5_11) (by decide) (by decide) ?_
    exact ⟨Nf, rfl, _, rfl, by omega⟩
theorem d4_0 : decode prog_4_method_4_code 0 = .ok (.lconst 0, 1) := by decide +kernel
theorem d4_1 : decode prog_4_method_4_code 1 = .ok (.aload_n 0, 1) := by decide +kernel
theorem d4_2 : decode prog_4_method_4_code 2 = .ok (.getfield 13, 3) := by decide +kernel
theorem d4_5 : decode prog_4_method_4_code 5 = .ok (.aload_n 0, 1) := by decide +kernel
theorem d4_6 : decode prog_4_method_4_code 6 = .ok (.getfield 7, 3) := by decide +kernel
theorem d4_9 : decode prog_4_method_4_code 9 = .ok (.lsub, 1) := by decide +kernel
theorem d4_10 : decode prog_4_method_4_code 10 = .ok (.lconst 1, 1) := by decide +kernel
theorem d4_11 : decode prog_4_method_4_code 11 = .ok (.ladd, 1) := by decide +kernel
theorem d4_12 : decode prog_4_method_4_code 12 = .ok (.invokestatic 21, 3) := by decide +kernel
theorem d4_15 : decode prog_4_method_4_code 15 = .ok (.lreturn, 1) := by decide +kernel
theorem pd_1 : parseMethodDescriptor "(JJ)J" = some ⟨[.long, .long], some .long⟩ := by decide +kernel
theorem ef_4 (m : MethodId) (a : Addr) : entryFrame m #[(.ref a)] 1 = mkF m 0 #[.val (.ref a)] [] := by first | (simp [entryFrame, mkF, argsToLocals, Value.category]; done) | rfl
def Q4 (Z : State) (a : Addr) (u1 : Int64) (u2 : Int64) (h0 : Heap) (n0 : Nat) (v : Option Value) (h : Heap) (L : List Loc) : Prop := Fr n0 L ∧ h = h0 ∧ (∃ z : Int64, v = some (.long z) ∧ ((u2.toInt < u1.toInt → z.toInt = 0) ∧ (u1.toInt ≤ u2.toInt → z.toInt = u2.toInt - u1.toInt + 1)))
set_option maxRecDepth 65536 in
set_option maxHeartbeats 40000000 in
theorem rm4 (l : Launch) (Z : State) (a0 : Array Value) (hw : ∀ d ∈ tables_1, d.before a0 Z = true) (ws : List Jvm.Cond) (a : Addr) (u1 : Int64) (u2 : Int64) (h0 : Heap) (n0 : Nat) (Zs : n0 ≤ h0.size) (F_first_a : Fld Z h0 a "com/example/orbyt/orbyt/IndexRange" "first" "J" (.long u1)) (F_last_a : Fld Z h0 a "com/example/orbyt/orbyt/IndexRange" "last" "J" (.long u2)) (hu : -9223372036854775807 ≤ u2.toInt - u1.toInt ∧ u2.toInt - u1.toInt < 9223372036854775807) :
    MetFree l (⟨"com/example/orbyt/orbyt/IndexRange", "count", "()J"⟩ : MethodName) (head1 (Jvm.Cond.code (⟨"com/example/orbyt/orbyt/IndexRange", "count", "()J"⟩ : MethodName) prog_4_method_4_code 1 (some .long) :: ws) ({ frames := 1, cells := 0, slots := 0, locals := 15 } : Room)) (fun as' U => as' = #[(.ref a)] ∧ Z.Warmed39 U.vm ∧ U.heap = h0) (fun _ _ _ _ _ => True) (fun _ U o U' => ∃ v L, o = .returned v ∧ Q4 Z a u1 u2 h0 n0 v U'.heap L ∧ FrameEnd U o U' L ({ frames := 1, cells := 0, slots := 0, locals := 15 } : Room).cells ({ frames := 1, cells := 0, slots := 0, locals := 15 } : Room).slots) := by
  refine MetFree.of_bodySF (plainFor_of_name pn_1) hisR ?_
  intro p e s m args below meth c s₁ Bd hml0 hP hK
  obtain ⟨rfl, hZ, hh⟩ := hP
  have hx := Bd.exec
  have hby := Bd.bytes
  have hml : c.maxLocals = 1 := hml0
  have hown : s.vm.findClass "com/example/orbyt/orbyt/IndexRange" = some m.cls := findClass_of_methodNamed Bd.named
  have hnm := (name_of_methodNamed Bd.named Bd.method).1
  have hlk : meth.locks = false := Bd.notSynchronized
  have X0 : Stand p l e ({ frames := 1, cells := 0, slots := 0, locals := 15 } : Room) s m #[(.ref a)] below meth c s₁ [] 0 0 := Stand.of_body Bd
  have e0 : s₁.heap = h0 := by rw [← hh, Bd.state]; rfl
  have Nf := Fr.nil n0
  refine (?_ : Win p.tables e below (PostQ s (Q4 Z a u1 u2 h0 n0) ({ frames := 1, cells := 0, slots := 0, locals := 15 } : Room).cells ({ frames := 1, cells := 0, slots := 0, locals := 15 } : Room).slots) (s₁.setTop (entryFrame m #[(.ref a)] 1)))
  rw [ef_4]
  have lt_a : a < h0.size := F_first_a.lt
  show Win p.tables e below _ (s₁.setTop (mkF m 0 #[.val (.ref a)] []))
  refine s_lconst (pc' := 1) (z := (0 : Int64)) X0.here hx (hb hby d4_0) rfl rfl ?_
  refine s_aloadN (pc' := 2) X0.here hx (hb hby d4_1) rfl rfl rfl ?_
  obtain ⟨T_5, X_5, e_5, st_5⟩ := getF X0 hx hZ hown (host := "") (Or.inl (hw _ (List.mem_of_getElem? (i := 17) rfl))) Via.refl e0 F_last_a (g := (mkF m 2 #[.val (.ref a)] [(.ref a), (.long (0 : Int64))])) rfl rfl (hb hby d4_2)
  refine Win.go st_5 ?_
  show Win p.tables e below _ (T_5.setTop (mkF m 5 #[.val (.ref a)] [(.long u2), (.long (0 : Int64))]))
  refine s_aloadN (pc' := 6) X_5.here hx (hb hby d4_5) rfl rfl rfl ?_
  obtain ⟨T_6, X_6, e_6, st_6⟩ := getF X_5 hx hZ hown (host := "") (Or.inl (hw _ (List.mem_of_getElem? (i := 15) rfl))) Via.refl e_5 F_first_a (g := (mkF m 6 #[.val (.ref a)] [(.ref a), (.long u2), (.long (0 : Int64))])) rfl rfl (hb hby d4_6)
  refine Win.go st_6 ?_
  show Win p.tables e below _ (T_6.setTop (mkF m 9 #[.val (.ref a)] [(.long u1), (.long u2), (.long (0 : Int64))]))
  refine s_lsub (pc' := 10) X_6.here hx (hb hby d4_9) rfl ?_
  refine s_lconst (pc' := 11) (z := (1 : Int64)) X_6.here hx (hb hby d4_10) rfl rfl ?_
  refine s_ladd (pc' := 12) X_6.here hx (hb hby d4_11) rfl ?_
  obtain ⟨_, _, ⟨T_7, L_7, k_7, n_7⟩, -, X_7, ⟨Lc_7, hQ_7, l_7, y_7, z_7⟩, st_7⟩ := Jvm.LawKit.callS X_6 hx (y := (⟨"java/lang/Math", "max", "(JJ)J"⟩ : MethodName)) hown (mvT hZ (hw _ (List.mem_of_getElem? (i := 24) rfl))) (mvT hZ (hw _ (List.mem_of_getElem? (i := 25) rfl))) (mvT hZ (hw _ (List.mem_of_getElem? (i := 26) rfl))) (mvT hZ (hw _ (List.mem_of_getElem? (i := 27) rfl))) (by decide) (backOf (W := 0) (rm5 l Z a0 hw [] (0 : Int64) ((u2 - u1) + (1 : Int64)) h0 n0 Zs ) hZ (hw _ (List.mem_of_getElem? (i := 27) rfl)) (hw _ (List.mem_of_getElem? (i := 26) rfl)) (by decide) (by decide)) (g := (mkF m 12 #[.val (.ref a)] [(.long ((u2 - u1) + (1 : Int64))), (.long (0 : Int64))])) rfl (by rw [hml]; rfl) (argsL := [(.long (0 : Int64)), (.long ((u2 - u1) + (1 : Int64)))]) (rest := []) (lenOf pd_1 rfl) rfl (by show 2 * 0 + _ ≤ _; exact Nat.le_of_eq rfl) (hb hby d4_12) (fun _ _ => ⟨rfl, e_6, (by decide : 0 + 0 ≤ _), (by decide : 0 + 0 ≤ _)⟩)
  dsimp only [Pt.U, Pt.locs, Pt.cells, Pt.slots] at X_7 l_7 y_7 z_7 st_7 hQ_7
  subst l_7 y_7 z_7
  obtain ⟨Nq_7, e_7, r1, rfl, hr1⟩ := hQ_7
  replace Nf := Fr.app Nf Nq_7
  refine Win.go st_7 ?_
  show Win p.tables e below _ (T_7.setTop (mkF m 15 #[.val (.ref a)] [(.long r1)]))
  refine winL X_7 hx hlk e_7 Bd.returns (hb hby d4_15) (by decide) (by decide) ?_
  refine ⟨Nf, rfl, _, rfl, ?_⟩
  have h1 := c_lsub u2 u1
  have h2 := c_ladd (u2 - u1) 1
  have h3 := rng64 (u2 - u1)
  have h4 := rng64 (u2 - u1 + 1)
  have h5 := rng64 u1
  have h6 := rng64 u2
  have h7 : (1 : Int64).toInt = 1 := rfl
  have h8 : (0 : Int64).toInt = 0 := rfl
  rw [h8] at hr1
  omega
theorem d6_0 : decode prog_4_method_3_code 0 = .ok (.aload_n 0, 1) := by decide +kernel
theorem d6_1 : decode prog_4_method_3_code 1 = .ok (.getfield 7, 3) := by decide +kernel
theorem d6_4 : decode prog_4_method_3_code 4 = .ok (.aload_n 0, 1) := by decide +kernel
theorem d6_5 : decode prog_4_method_3_code 5 = .ok (.getfield 13, 3) := by decide +kernel
theorem d6_8 : decode prog_4_method_3_code 8 = .ok (.lcmp, 1) := by decide +kernel
theorem d6_9 : decode prog_4_method_3_code 9 = .ok (.ifCond .le 7, 3) := by decide +kernel
theorem d6_12 : decode prog_4_method_3_code 12 = .ok (.iconst 1, 1) := by decide +kernel
theorem d6_13 : decode prog_4_method_3_code 13 = .ok (.goto 4, 3) := by decide +kernel
theorem d6_16 : decode prog_4_method_3_code 16 = .ok (.iconst 0, 1) := by decide +kernel
theorem d6_17 : decode prog_4_method_3_code 17 = .ok (.ireturn, 1) := by decide +kernel
theorem ef_6 (m : MethodId) (a : Addr) : entryFrame m #[(.ref a)] 1 = mkF m 0 #[.val (.ref a)] [] := by first | (simp [entryFrame, mkF, argsToLocals, Value.category]; done) | rfl
def Q6 (Z : State) (a : Addr) (u1 : Int64) (u2 : Int64) (h0 : Heap) (n0 : Nat) (v : Option Value) (h : Heap) (L : List Loc) : Prop := Fr n0 L ∧ h = h0 ∧ (∃ z : Int32, v = some (.int z) ∧ ((z.toInt = 1 ∧ (u2.toInt < u1.toInt)) ∨ (z.toInt = 0 ∧ ¬ (u2.toInt < u1.toInt))))
set_option maxRecDepth 65536 in
set_option maxHeartbeats 40000000 in
theorem rm6 (l : Launch) (Z : State) (a0 : Array Value) (hw : ∀ d ∈ tables_1, d.before a0 Z = true) (ws : List Jvm.Cond) (a : Addr) (u1 : Int64) (u2 : Int64) (h0 : Heap) (n0 : Nat) (Zs : n0 ≤ h0.size) (F_first_a : Fld Z h0 a "com/example/orbyt/orbyt/IndexRange" "first" "J" (.long u1)) (F_last_a : Fld Z h0 a "com/example/orbyt/orbyt/IndexRange" "last" "J" (.long u2)) :
    MetFree l (⟨"com/example/orbyt/orbyt/IndexRange", "isEmpty", "()Z"⟩ : MethodName) (head1 (Jvm.Cond.code (⟨"com/example/orbyt/orbyt/IndexRange", "isEmpty", "()Z"⟩ : MethodName) prog_4_method_3_code 1 (some .boolean) :: ws) ({ frames := 0, cells := 0, slots := 0, locals := 0 } : Room)) (fun as' U => as' = #[(.ref a)] ∧ Z.Warmed39 U.vm ∧ U.heap = h0) (fun _ _ _ _ _ => True) (fun _ U o U' => ∃ v L, o = .returned v ∧ Q6 Z a u1 u2 h0 n0 v U'.heap L ∧ FrameEnd U o U' L ({ frames := 0, cells := 0, slots := 0, locals := 0 } : Room).cells ({ frames := 0, cells := 0, slots := 0, locals := 0 } : Room).slots) := by
  refine MetFree.of_bodySF (plainFor_of_name pn_1) hisR ?_
  intro p e s m args below meth c s₁ Bd hml0 hP hK
  obtain ⟨rfl, hZ, hh⟩ := hP
  have hx := Bd.exec
  have hby := Bd.bytes
  have hml : c.maxLocals = 1 := hml0
  have hown : s.vm.findClass "com/example/orbyt/orbyt/IndexRange" = some m.cls := findClass_of_methodNamed Bd.named
  have hnm := (name_of_methodNamed Bd.named Bd.method).1
  have hlk : meth.locks = false := Bd.notSynchronized
  have X0 : Stand p l e ({ frames := 0, cells := 0, slots := 0, locals := 0 } : Room) s m #[(.ref a)] below meth c s₁ [] 0 0 := Stand.of_body Bd
  have e0 : s₁.heap = h0 := by rw [← hh, Bd.state]; rfl
  have Nf := Fr.nil n0
  refine (?_ : Win p.tables e below (PostQ s (Q6 Z a u1 u2 h0 n0) ({ frames := 0, cells := 0, slots := 0, locals := 0 } : Room).cells ({ frames := 0, cells := 0, slots := 0, locals := 0 } : Room).slots) (s₁.setTop (entryFrame m #[(.ref a)] 1)))
  rw [ef_6]
  have lt_a : a < h0.size := F_first_a.lt
  show Win p.tables e below _ (s₁.setTop (mkF m 0 #[.val (.ref a)] []))
  refine s_aloadN (pc' := 1) X0.here hx (hb hby d6_0) rfl rfl rfl ?_
  obtain ⟨T_8, X_8, e_8, st_8⟩ := getF X0 hx hZ hown (host := "") (Or.inl (hw _ (List.mem_of_getElem? (i := 15) rfl))) Via.refl e0 F_first_a (g := (mkF m 1 #[.val (.ref a)] [(.ref a)])) rfl rfl (hb hby d6_1)
  refine Win.go st_8 ?_
  show Win p.tables e below _ (T_8.setTop (mkF m 4 #[.val (.ref a)] [(.long u1)]))
  refine s_aloadN (pc' := 5) X_8.here hx (hb hby d6_4) rfl rfl rfl ?_
  obtain ⟨T_9, X_9, e_9, st_9⟩ := getF X_8 hx hZ hown (host := "") (Or.inl (hw _ (List.mem_of_getElem? (i := 17) rfl))) Via.refl e_8 F_last_a (g := (mkF m 5 #[.val (.ref a)] [(.ref a), (.long u1)])) rfl rfl (hb hby d6_5)
  refine Win.go st_9 ?_
  show Win p.tables e below _ (T_9.setTop (mkF m 8 #[.val (.ref a)] [(.long u2), (.long u1)]))
  refine s_lcmp (pc' := 9) X_9.here hx (hb hby d6_8) rfl ?_
  by_cases hc9 : (u2).toInt < (u1).toInt
  · skip
    refine s_ifNo (pc' := 12) X_9.here hx (hb hby d6_9) rfl (tltL (x := u2) (y := u1) hc9).2.2.2 ?_
    refine s_iconst (pc' := 13) (z := (1 : Int32)) X_9.here hx (hb hby d6_12) rfl rfl ?_
    refine s_goto (pc' := 17) X_9.here hx (hb hby d6_13) (by decide) (by decide) ?_
    refine winN X_9 hx hlk e_9 (t := .boolean) Bd.returns (by simp) (hb hby d6_17) (by decide) (by decide) (z' := (1 : Int32)) rfl ?_
    refine ⟨Nf, rfl, _, rfl, Or.inl ⟨rfl, ?_⟩⟩
    omega
  · skip
    refine s_ifYes (pc' := 16) X_9.here hx (hb hby d6_9) (fltL (x := u2) (y := u1) hc9).2.2.2 (by decide) (by decide) ?_
    refine s_iconst (pc' := 17) (z := (0 : Int32)) X_9.here hx (hb hby d6_16) rfl rfl ?_
    refine winN X_9 hx hlk e_9 (t := .boolean) Bd.returns (by simp) (hb hby d6_17) (by decide) (by decide) (z' := (0 : Int32)) rfl ?_
    refine ⟨Nf, rfl, _, rfl, Or.inr ⟨rfl, ?_⟩⟩
    omega
theorem pn_0 : plainName "com/example/orbyt/orbyt/IndexRangeCountPinLaw" = true := by first | (simp [plainName, overriddenIn]; done) | decide +kernel
theorem pd_2 : parseMethodDescriptor "(JJ)V" = some ⟨[.long, .long], none⟩ := by decide +kernel
theorem pd_3 : parseMethodDescriptor "()J" = some ⟨[], some .long⟩ := by decide +kernel
theorem pd_4 : parseMethodDescriptor "()Z" = some ⟨[], some .boolean⟩ := by decide +kernel
theorem ef_0 (m : MethodId) (q1 : Int64) (q2 : Int64) (p3 : Int32) (p4 : Int32) : entryFrame m #[(.long q1), (.long q2), (.int p3), (.int p4)] maxLocals = mkF m 0 #[.val (.long q1), .second, .val (.long q2), .second, .val (.int p3), .val (.int p4), .unset, .unset, .unset, .unset, .unset, .unset, .unset, .unset, .unset, .unset, .unset] [] := by first | (simp [entryFrame, mkF, argsToLocals, Value.category, maxLocals]; done) | rfl
def Q0 (Z : State) (q1 : Int64) (q2 : Int64) (p3 : Int32) (p4 : Int32) (h0 : Heap) (n0 : Nat) (v : Option Value) (h : Heap) (L : List Loc) : Prop := Fr n0 L ∧ v = some (.int 1)
set_option maxRecDepth 65536 in
set_option maxHeartbeats 40000000 in
theorem rm0 (l : Launch) (Z : State) (a0 : Array Value) (hw : ∀ d ∈ tables_1, d.before a0 Z = true) (ws : List Jvm.Cond) (q1 : Int64) (q2 : Int64) (p3 : Int32) (p4 : Int32) (h0 : Heap) (n0 : Nat) (Zs : n0 ≤ h0.size) :
    MetFree l x (head1 (Jvm.Cond.code x code maxLocals ret :: ws) room_1) (fun as' U => as' = #[(.long q1), (.long q2), (.int p3), (.int p4)] ∧ Z.Warmed39 U.vm ∧ U.heap = h0) (fun _ _ _ _ _ => True) (fun _ U o U' => ∃ v L, o = .returned v ∧ Q0 Z q1 q2 p3 p4 h0 n0 v U'.heap L ∧ FrameEnd U o U' L room_1.cells room_1.slots) := by
  refine MetFree.of_bodySF (plainFor_of_name pn_0) hisR ?_
  intro p e s m args below meth c s₁ Bd hml0 hP hK
  obtain ⟨rfl, hZ, hh⟩ := hP
  have hx := Bd.exec
  have hby := Bd.bytes
  have hml : c.maxLocals = 17 := hml0
  have hown : s.vm.findClass "com/example/orbyt/orbyt/IndexRangeCountPinLaw" = some m.cls := findClass_of_methodNamed Bd.named
  have hnm := (name_of_methodNamed Bd.named Bd.method).1
  have hlk : meth.locks = false := Bd.notSynchronized
  have X0 : Stand p l e room_1 s m #[(.long q1), (.long q2), (.int p3), (.int p4)] below meth c s₁ [] 0 0 := Stand.of_body Bd
  have e0 : s₁.heap = h0 := by rw [← hh, Bd.state]; rfl
  have Nf := Fr.nil n0
  refine (?_ : Win p.tables e below (PostQ s (Q0 Z q1 q2 p3 p4 h0 n0) room_1.cells room_1.slots) (s₁.setTop (entryFrame m #[(.long q1), (.long q2), (.int p3), (.int p4)] maxLocals)))
  rw [ef_0]
  show Win p.tables e below _ (s₁.setTop (mkF m 0 #[.val (.long q1), .second, .val (.long q2), .second, .val (.int p3), .val (.int p4), .unset, .unset, .unset, .unset, .unset, .unset, .unset, .unset, .unset, .unset, .unset] []))
  refine Win.go (fun _ k => X0.ldc2Long hx hown (mvT hZ (hw _ (List.mem_of_getElem? (i := 0) rfl))) (g := (mkF m 0 #[.val (.long q1), .second, .val (.long q2), .second, .val (.int p3), .val (.int p4), .unset, .unset, .unset, .unset, .unset, .unset, .unset, .unset, .unset, .unset, .unset] [])) rfl (hb hby at_0) _ k) ?_
  show Win p.tables e below _ (s₁.setTop (mkF m 3 #[.val (.long q1), .second, .val (.long q2), .second, .val (.int p3), .val (.int p4), .unset, .unset, .unset, .unset, .unset, .unset, .unset, .unset, .unset, .unset, .unset] [(.long (4611686018427387903 : Int64))]))
  refine s_lstore (pc' := 5) (l' := #[.val (.long q1), .second, .val (.long q2), .second, .val (.int p3), .val (.int p4), .val (.long (4611686018427387903 : Int64)), .second, .unset, .unset, .unset, .unset, .unset, .unset, .unset, .unset, .unset]) X0.here hx (hb hby at_3) rfl rfl ?_
  refine s_lloadN (pc' := 6) X0.here hx (hb hby at_5) rfl rfl ?_
  refine s_lload (pc' := 8) X0.here hx (hb hby at_6) rfl rfl ?_
  refine s_land (pc' := 9) X0.here hx (hb hby at_8) rfl ?_
  refine s_lstore (pc' := 11) (l' := #[.val (.long q1), .second, .val (.long q2), .second, .val (.int p3), .val (.int p4), .val (.long (4611686018427387903 : Int64)), .second, .val (.long (q1 &&& (4611686018427387903 : Int64))), .second, .unset, .unset, .unset, .unset, .unset, .unset, .unset]) X0.here hx (hb hby at_9) rfl rfl ?_
  generalize hfi : (q1 &&& (4611686018427387903 : Int64)) = fi
  show Win p.tables e below _ (s₁.setTop (mkF m 11 #[.val (.long q1), .second, .val (.long q2), .second, .val (.int p3), .val (.int p4), .val (.long (4611686018427387903 : Int64)), .second, .val (.long fi), .second, .unset, .unset, .unset, .unset, .unset, .unset, .unset] []))
  have bfi := own_m62 q1
  rw [hfi] at bfi
  refine s_iload (pc' := 13) X0.here hx (hb hby at_11) rfl rfl ?_
  refine s_iconst (pc' := 14) (z := (1 : Int32)) X0.here hx (hb hby at_13) rfl rfl ?_
  refine s_iand (pc' := 15) X0.here hx (hb hby at_14) rfl ?_
  by_cases hc15 : ((p4 &&& (1 : Int32))).toInt = (0 : Int)
  · skip
    refine s_ifYes (pc' := 31) X0.here hx (hb hby at_15) ((if0 _ _).trans (teqI (x := (p4 &&& (1 : Int32))) (y := (0 : Int32)) hc15).1) (by decide) (by decide) ?_
    refine s_lloadN (pc' := 32) X0.here hx (hb hby at_31) rfl rfl ?_
    refine s_lload (pc' := 34) X0.here hx (hb hby at_32) rfl rfl ?_
    refine s_land (pc' := 35) X0.here hx (hb hby at_34) rfl ?_
    refine s_lconst (pc' := 36) (z := (1 : Int64)) X0.here hx (hb hby at_35) rfl rfl ?_
    refine s_lsub (pc' := 37) X0.here hx (hb hby at_36) rfl ?_
    refine s_lstore (pc' := 39) (l' := #[.val (.long q1), .second, .val (.long q2), .second, .val (.int p3), .val (.int p4), .val (.long (4611686018427387903 : Int64)), .second, .val (.long fi), .second, .val (.long ((q2 &&& (4611686018427387903 : Int64)) - (1 : Int64))), .second, .unset, .unset, .unset, .unset, .unset]) X0.here hx (hb hby at_37) rfl rfl ?_
    generalize hla : ((q2 &&& (4611686018427387903 : Int64)) - (1 : Int64)) = la
    show Win p.tables e below _ (s₁.setTop (mkF m 39 #[.val (.long q1), .second, .val (.long q2), .second, .val (.int p3), .val (.int p4), .val (.long (4611686018427387903 : Int64)), .second, .val (.long fi), .second, .val (.long la), .second, .unset, .unset, .unset, .unset, .unset] []))
    have bla : -1 ≤ la.toInt ∧ la.toInt < 4611686018427387904 := by
      have h1 := own_m62 q2
      have h2 := c_lsub (q2 &&& (4611686018427387903 : Int64)) 1
      rw [hla, h1] at h2
      have h3 := rng64 la
      have h4 : (1 : Int64).toInt = 1 := rfl
      omega
    obtain ⟨T_10, h_10, X_10, e_10, Ex_10, A_10, D_10, -, st_10⟩ := newO X0 hx hZ hown (hw _ (List.mem_of_getElem? (i := 1) rfl)) (hw _ (List.mem_of_getElem? (i := 2) rfl)) (hw _ (List.mem_of_getElem? (i := 3) rfl)) e0 (g := (mkF m 39 #[.val (.long q1), .second, .val (.long q2), .second, .val (.int p3), .val (.int p4), .val (.long (4611686018427387903 : Int64)), .second, .val (.long fi), .second, .val (.long la), .second, .unset, .unset, .unset, .unset, .unset] [])) rfl (hb hby at_39) (by decide) (by decide)
    obtain ⟨b_10, g_10⟩ : ∃ z, z = h0.size := ⟨_, rfl⟩
    have g_b_10 : n0 ≤ b_10 := Nat.le_trans Zs (Nat.le_of_eq g_10.symm)
    rw [← g_10] at A_10 D_10 st_10
    replace Zs := Nat.le_trans Zs Ex_10.1
    have E_b_10 := A_10
    have lt_b_10 := E_b_10.lt
    have F_first_b_10 : Fld Z h_10 b_10 "com/example/orbyt/orbyt/IndexRange" "first" "J" (.long (0 : Int64)) := D_10 (Or.inr (hw _ (List.mem_of_getElem? (i := 16) rfl))) (ty := .long) (by decide)
    have F_last_b_10 : Fld Z h_10 b_10 "com/example/orbyt/orbyt/IndexRange" "last" "J" (.long (0 : Int64)) := D_10 (Or.inr (hw _ (List.mem_of_getElem? (i := 18) rfl))) (ty := .long) (by decide)
    refine Win.go st_10 ?_
    show Win p.tables e below _ (T_10.setTop (mkF m 42 #[.val (.long q1), .second, .val (.long q2), .second, .val (.int p3), .val (.int p4), .val (.long (4611686018427387903 : Int64)), .second, .val (.long fi), .second, .val (.long la), .second, .unset, .unset, .unset, .unset, .unset] [(.ref b_10)]))
    refine s_dup (pc' := 43) X_10.here hx (hb hby at_42) rfl rfl ?_
    refine s_lload (pc' := 45) X_10.here hx (hb hby at_43) rfl rfl ?_
    refine s_lload (pc' := 47) X_10.here hx (hb hby at_45) rfl rfl ?_
    obtain ⟨_, _, ⟨T_11, L_11, k_11, n_11⟩, -, X_11, ⟨Lc_11, hQ_11, l_11, y_11, z_11⟩, st_11⟩ := X_10.specialBack hx (y := (⟨"com/example/orbyt/orbyt/IndexRange", "<init>", "(JJ)V"⟩ : MethodName)) rfl hown (mvT hZ (hw _ (List.mem_of_getElem? (i := 4) rfl))) (mvT hZ (hw _ (List.mem_of_getElem? (i := 5) rfl))) (mvT hZ (hw _ (List.mem_of_getElem? (i := 6) rfl))) (by decide) (backOf (W := 1) (rm1 l Z a0 hw [] b_10 fi la h_10 n0 Zs E_b_10 F_first_b_10 F_last_b_10 g_b_10) hZ (hw _ (List.mem_of_getElem? (i := 6) rfl)) (hw _ (List.mem_of_getElem? (i := 3) rfl)) (by decide) (by decide)) (g := (mkF m 47 #[.val (.long q1), .second, .val (.long q2), .second, .val (.int p3), .val (.int p4), .val (.long (4611686018427387903 : Int64)), .second, .val (.long fi), .second, .val (.long la), .second, .unset, .unset, .unset, .unset, .unset] [(.long la), (.long fi), (.ref b_10), (.ref b_10)])) rfl (by rw [hml]; rfl) (Steps.refl _) (a := b_10) (argsL := [(.long fi), (.long la)]) (rest := [(.ref b_10)]) (lenOf pd_2 rfl) rfl (by show 2 * 0 + _ ≤ _; exact Nat.le_of_eq rfl) (hb hby at_47) (fun _ _ => ⟨rfl, e_10, (by decide : 1 + 0 ≤ _), (by decide : 2 + 0 ≤ _)⟩)
    dsimp only [Pt.U, Pt.locs, Pt.cells, Pt.slots] at X_11 l_11 y_11 z_11 st_11 hQ_11
    subst l_11 y_11 z_11
    obtain ⟨h_11, e_11⟩ : ∃ z, T_11.heap = z := ⟨_, rfl⟩
    rw [e_11] at hQ_11
    obtain ⟨Nq_11, K_11, n_11_F_first_b_10, n_11_F_last_b_10, rfl⟩ := hQ_11
    replace Nf := Fr.app Nf Nq_11
    replace E_b_10 := E_b_10.keep K_11
    clear F_first_b_10
    clear F_last_b_10
    replace lt_b_10 := Nat.lt_of_lt_of_le lt_b_10 K_11.1
    replace Zs := Nat.le_trans Zs K_11.1
    have F_first_b_10 := n_11_F_first_b_10
    have F_last_b_10 := n_11_F_last_b_10
    refine Win.come st_11 ?_
    show Win p.tables e below _ (T_11.setTop (mkF m 50 #[.val (.long q1), .second, .val (.long q2), .second, .val (.int p3), .val (.int p4), .val (.long (4611686018427387903 : Int64)), .second, .val (.long fi), .second, .val (.long la), .second, .unset, .unset, .unset, .unset, .unset] [(.ref b_10)]))
    refine s_astore (pc' := 52) (l' := #[.val (.long q1), .second, .val (.long q2), .second, .val (.int p3), .val (.int p4), .val (.long (4611686018427387903 : Int64)), .second, .val (.long fi), .second, .val (.long la), .second, .val (.ref b_10), .unset, .unset, .unset, .unset]) X_11.here hx (hb hby at_50) rfl rfl rfl ?_
    refine s_aload (pc' := 54) X_11.here hx (hb hby at_52) rfl rfl rfl ?_
    obtain ⟨cq_12, kq_12, q_12a, q_12b, q_12c⟩ := isOf hZ e_11 E_b_10
    obtain ⟨_, _, ⟨T_12, L_12, k_12, n_12⟩, -, X_12, ⟨Lc_12, hQ_12, l_12, y_12, z_12⟩, st_12⟩ := X_11.virtualBack hx (y := (⟨"com/example/orbyt/orbyt/IndexRange", "count", "()J"⟩ : MethodName)) (z := (⟨"com/example/orbyt/orbyt/IndexRange", "count", "()J"⟩ : MethodName)) hown (mvT hZ (hw _ (List.mem_of_getElem? (i := 19) rfl))) (mvT hZ (hw _ (List.mem_of_getElem? (i := 20) rfl))) (notFace_of_selects (args := #[]) (mvT hZ (hw _ (List.mem_of_getElem? (i := 22) rfl)))) (mvT hZ (hw _ (List.mem_of_getElem? (i := 22) rfl))) (mvT hZ (hw _ (List.mem_of_getElem? (i := 21) rfl))) (by decide) (backOf (W := 0) (rm4 l Z a0 hw [] b_10 fi la h_11 n0 Zs F_first_b_10 F_last_b_10 (by omega)) hZ (hw _ (List.mem_of_getElem? (i := 23) rfl)) (hw _ (List.mem_of_getElem? (i := 3) rfl)) (by decide) (by decide)) q_12a q_12c (g := (mkF m 54 #[.val (.long q1), .second, .val (.long q2), .second, .val (.int p3), .val (.int p4), .val (.long (4611686018427387903 : Int64)), .second, .val (.long fi), .second, .val (.long la), .second, .val (.ref b_10), .unset, .unset, .unset, .unset] [(.ref b_10)])) rfl (by rw [hml]; rfl) (Steps.refl _) (argsL := []) (rest := []) (lenOf pd_3 rfl) rfl (by show 2 * 0 + _ ≤ _; exact Nat.le_of_eq rfl) (hb hby at_54) (fun _ _ => ⟨rfl, e_11, (by decide : 1 + 0 ≤ _), (by decide : 2 + 0 ≤ _)⟩)
    dsimp only [Pt.U, Pt.locs, Pt.cells, Pt.slots] at X_12 l_12 y_12 z_12 st_12 hQ_12
    subst l_12 y_12 z_12
    obtain ⟨Nq_12, e_12, r1, rfl, hr1⟩ := hQ_12
    replace Nf := Fr.app Nf Nq_12
    refine Win.come st_12 ?_
    show Win p.tables e below _ (T_12.setTop (mkF m 57 #[.val (.long q1), .second, .val (.long q2), .second, .val (.int p3), .val (.int p4), .val (.long (4611686018427387903 : Int64)), .second, .val (.long fi), .second, .val (.long la), .second, .val (.ref b_10), .unset, .unset, .unset, .unset] [(.long r1)]))
    obtain ⟨hr1a, hr1b⟩ := hr1
    refine s_lstore (pc' := 59) (l' := #[.val (.long q1), .second, .val (.long q2), .second, .val (.int p3), .val (.int p4), .val (.long (4611686018427387903 : Int64)), .second, .val (.long fi), .second, .val (.long la), .second, .val (.ref b_10), .val (.long r1), .second, .unset, .unset]) X_12.here hx (hb hby at_57) rfl rfl ?_
    refine s_lload (pc' := 61) X_12.here hx (hb hby at_59) rfl rfl ?_
    refine s_lload (pc' := 63) X_12.here hx (hb hby at_61) rfl rfl ?_
    refine s_lcmp (pc' := 64) X_12.here hx (hb hby at_63) rfl ?_
    by_cases hc64 : (la).toInt < (fi).toInt
    · skip
      refine s_ifNo (pc' := 67) X_12.here hx (hb hby at_64) rfl (tltL (x := la) (y := fi) hc64).2.2.2 ?_
      refine s_lconst (pc' := 68) (z := (0 : Int64)) X_12.here hx (hb hby at_67) rfl rfl ?_
      refine s_lstore (pc' := 70) (l' := #[.val (.long q1), .second, .val (.long q2), .second, .val (.int p3), .val (.int p4), .val (.long (4611686018427387903 : Int64)), .second, .val (.long fi), .second, .val (.long la), .second, .val (.ref b_10), .val (.long r1), .second, .val (.long (0 : Int64)), .second]) X_12.here hx (hb hby at_68) rfl rfl ?_
      refine s_goto (pc' := 82) X_12.here hx (hb hby at_70) (by decide) (by decide) ?_
      refine s_lload (pc' := 84) X_12.here hx (hb hby at_82) rfl rfl ?_
      refine s_lload (pc' := 86) X_12.here hx (hb hby at_84) rfl rfl ?_
      refine s_lcmp (pc' := 87) X_12.here hx (hb hby at_86) rfl ?_
      by_cases hc87 : (r1).toInt = (0 : Int)
      · skip
        refine s_ifNo (pc' := 90) X_12.here hx (hb hby at_87) rfl (teqL (x := r1) (y := (0 : Int64)) hc87).2 ?_
        refine s_lload (pc' := 92) X_12.here hx (hb hby at_90) rfl rfl ?_
        refine s_lconst (pc' := 93) (z := (0 : Int64)) X_12.here hx (hb hby at_92) rfl rfl ?_
        refine s_lcmp (pc' := 94) X_12.here hx (hb hby at_93) rfl ?_
        by_cases hc94 : (r1).toInt < (0 : Int)
        · skip
          refine s_ifYes (pc' := 121) X_12.here hx (hb hby at_94) (tltL (x := r1) (y := (0 : Int64)) hc94).1 (by decide) (by decide) ?_
          refine s_iconst (pc' := 122) (z := (0 : Int32)) X_12.here hx (hb hby at_121) rfl rfl ?_
          exfalso
          have h1 := c_lsub la fi
          have h2 := c_ladd (la - fi) 1
          have h3 := rng64 (la - fi)
          have h4 := rng64 (la - fi + 1)
          have h7 : (1 : Int64).toInt = 1 := rfl
          omega
        · skip
          refine s_ifNo (pc' := 97) X_12.here hx (hb hby at_94) rfl (fltL (x := r1) (y := (0 : Int64)) hc94).1 ?_
          refine s_lload (pc' := 99) X_12.here hx (hb hby at_97) rfl rfl ?_
          refine s_lconst (pc' := 100) (z := (0 : Int64)) X_12.here hx (hb hby at_99) rfl rfl ?_
          refine s_lcmp (pc' := 101) X_12.here hx (hb hby at_100) rfl ?_
          refine s_ifNo (pc' := 104) X_12.here hx (hb hby at_101) rfl (teqL (x := r1) (y := (0 : Int64)) hc87).2 ?_
          refine s_iconst (pc' := 105) (z := (1 : Int32)) X_12.here hx (hb hby at_104) rfl rfl ?_
          refine s_goto (pc' := 109) X_12.here hx (hb hby at_105) (by decide) (by decide) ?_
          refine s_aload (pc' := 111) X_12.here hx (hb hby at_109) rfl rfl rfl ?_
          obtain ⟨cq_13, kq_13, q_13a, q_13b, q_13c⟩ := isOf hZ e_12 E_b_10
          obtain ⟨_, _, ⟨T_13, L_13, k_13, n_13⟩, -, X_13, ⟨Lc_13, hQ_13, l_13, y_13, z_13⟩, st_13⟩ := X_12.virtualBack hx (y := (⟨"com/example/orbyt/orbyt/IndexRange", "isEmpty", "()Z"⟩ : MethodName)) (z := (⟨"com/example/orbyt/orbyt/IndexRange", "isEmpty", "()Z"⟩ : MethodName)) hown (mvT hZ (hw _ (List.mem_of_getElem? (i := 28) rfl))) (mvT hZ (hw _ (List.mem_of_getElem? (i := 29) rfl))) (notFace_of_selects (args := #[]) (mvT hZ (hw _ (List.mem_of_getElem? (i := 31) rfl)))) (mvT hZ (hw _ (List.mem_of_getElem? (i := 31) rfl))) (mvT hZ (hw _ (List.mem_of_getElem? (i := 30) rfl))) (by decide) (backOf (W := 1) (rm6 l Z a0 hw [] b_10 fi la h_11 n0 Zs F_first_b_10 F_last_b_10) hZ (hw _ (List.mem_of_getElem? (i := 32) rfl)) (hw _ (List.mem_of_getElem? (i := 3) rfl)) (by decide) (by decide)) q_13a q_13c (g := (mkF m 111 #[.val (.long q1), .second, .val (.long q2), .second, .val (.int p3), .val (.int p4), .val (.long (4611686018427387903 : Int64)), .second, .val (.long fi), .second, .val (.long la), .second, .val (.ref b_10), .val (.long r1), .second, .val (.long (0 : Int64)), .second] [(.ref b_10), (.int (1 : Int32))])) rfl (by rw [hml]; rfl) (Steps.refl _) (argsL := []) (rest := [(.int (1 : Int32))]) (lenOf pd_4 rfl) rfl (by show 2 * 0 + _ ≤ _; exact Nat.le_of_eq rfl) (hb hby at_111) (fun _ _ => ⟨rfl, e_12, (by decide : 1 + 0 ≤ _), (by decide : 2 + 0 ≤ _)⟩)
          dsimp only [Pt.U, Pt.locs, Pt.cells, Pt.slots] at X_13 l_13 y_13 z_13 st_13 hQ_13
          subst l_13 y_13 z_13
          obtain ⟨Nq_13, e_13, r2, rfl, hr2⟩ := hQ_13
          replace Nf := Fr.app Nf Nq_13
          refine Win.come st_13 ?_
          show Win p.tables e below _ (T_13.setTop (mkF m 114 #[.val (.long q1), .second, .val (.long q2), .second, .val (.int p3), .val (.int p4), .val (.long (4611686018427387903 : Int64)), .second, .val (.long fi), .second, .val (.long la), .second, .val (.ref b_10), .val (.long r1), .second, .val (.long (0 : Int64)), .second] [(.int r2), (.int (1 : Int32))]))
          by_cases hc114 : (1 : Int) = (r2).toInt
          · skip
            refine s_icmpNo (pc' := 117) X_13.here hx (hb hby at_114) rfl (teqI (x := (1 : Int32)) (y := r2) hc114).2 ?_
            refine s_iconst (pc' := 118) (z := (1 : Int32)) X_13.here hx (hb hby at_117) rfl rfl ?_
            refine s_goto (pc' := 122) X_13.here hx (hb hby at_118) (by decide) (by decide) ?_
            refine winN X_13 hx hlk e_13 (t := .boolean) Bd.returns (by simp) (hb hby at_122) (by decide) (by decide) (z' := 1) rfl ⟨Nf, rfl⟩
          · skip
            refine s_icmpYes (pc' := 121) X_13.here hx (hb hby at_114) (feqI (x := (1 : Int32)) (y := r2) hc114).2 (by decide) (by decide) ?_
            refine s_iconst (pc' := 122) (z := (0 : Int32)) X_13.here hx (hb hby at_121) rfl rfl ?_
            exfalso
            have h1 := c_lsub la fi
            have h2 := c_ladd (la - fi) 1
            have h3 := rng64 (la - fi)
            have h4 := rng64 (la - fi + 1)
            have h7 : (1 : Int64).toInt = 1 := rfl
            omega
      · skip
        refine s_ifYes (pc' := 121) X_12.here hx (hb hby at_87) (feqL (x := r1) (y := (0 : Int64)) hc87).2 (by decide) (by decide) ?_
        refine s_iconst (pc' := 122) (z := (0 : Int32)) X_12.here hx (hb hby at_121) rfl rfl ?_
        exfalso
        have h1 := c_lsub la fi
        have h2 := c_ladd (la - fi) 1
        have h3 := rng64 (la - fi)
        have h4 := rng64 (la - fi + 1)
        have h7 : (1 : Int64).toInt = 1 := rfl
        omega
    · skip
      refine s_ifYes (pc' := 73) X_12.here hx (hb hby at_64) (fltL (x := la) (y := fi) hc64).2.2.2 (by decide) (by decide) ?_
      refine s_lload (pc' := 75) X_12.here hx (hb hby at_73) rfl rfl ?_
      refine s_lload (pc' := 77) X_12.here hx (hb hby at_75) rfl rfl ?_
      refine s_lsub (pc' := 78) X_12.here hx (hb hby at_77) rfl ?_
      refine s_lconst (pc' := 79) (z := (1 : Int64)) X_12.here hx (hb hby at_78) rfl rfl ?_
      refine s_ladd (pc' := 80) X_12.here hx (hb hby at_79) rfl ?_
      refine s_lstore (pc' := 82) (l' := #[.val (.long q1), .second, .val (.long q2), .second, .val (.int p3), .val (.int p4), .val (.long (4611686018427387903 : Int64)), .second, .val (.long fi), .second, .val (.long la), .second, .val (.ref b_10), .val (.long r1), .second, .val (.long ((la - fi) + (1 : Int64))), .second]) X_12.here hx (hb hby at_80) rfl rfl ?_
      refine s_lload (pc' := 84) X_12.here hx (hb hby at_82) rfl rfl ?_
      refine s_lload (pc' := 86) X_12.here hx (hb hby at_84) rfl rfl ?_
      refine s_lcmp (pc' := 87) X_12.here hx (hb hby at_86) rfl ?_
      by_cases hc87 : (r1).toInt = (((la - fi) + (1 : Int64))).toInt
      · skip
        refine s_ifNo (pc' := 90) X_12.here hx (hb hby at_87) rfl (teqL (x := r1) (y := ((la - fi) + (1 : Int64))) hc87).2 ?_
        refine s_lload (pc' := 92) X_12.here hx (hb hby at_90) rfl rfl ?_
        refine s_lconst (pc' := 93) (z := (0 : Int64)) X_12.here hx (hb hby at_92) rfl rfl ?_
        refine s_lcmp (pc' := 94) X_12.here hx (hb hby at_93) rfl ?_
        by_cases hc94 : (r1).toInt < (0 : Int)
        · skip
          refine s_ifYes (pc' := 121) X_12.here hx (hb hby at_94) (tltL (x := r1) (y := (0 : Int64)) hc94).1 (by decide) (by decide) ?_
          refine s_iconst (pc' := 122) (z := (0 : Int32)) X_12.here hx (hb hby at_121) rfl rfl ?_
          exfalso
          have h1 := c_lsub la fi
          have h2 := c_ladd (la - fi) 1
          have h3 := rng64 (la - fi)
          have h4 := rng64 (la - fi + 1)
          have h7 : (1 : Int64).toInt = 1 := rfl
          omega
        · skip
          refine s_ifNo (pc' := 97) X_12.here hx (hb hby at_94) rfl (fltL (x := r1) (y := (0 : Int64)) hc94).1 ?_
          refine s_lload (pc' := 99) X_12.here hx (hb hby at_97) rfl rfl ?_
          refine s_lconst (pc' := 100) (z := (0 : Int64)) X_12.here hx (hb hby at_99) rfl rfl ?_
          refine s_lcmp (pc' := 101) X_12.here hx (hb hby at_100) rfl ?_
          by_cases hc101 : (r1).toInt = (0 : Int)
          · skip
            refine s_ifNo (pc' := 104) X_12.here hx (hb hby at_101) rfl (teqL (x := r1) (y := (0 : Int64)) hc101).2 ?_
            refine s_iconst (pc' := 105) (z := (1 : Int32)) X_12.here hx (hb hby at_104) rfl rfl ?_
            refine s_goto (pc' := 109) X_12.here hx (hb hby at_105) (by decide) (by decide) ?_
            refine s_aload (pc' := 111) X_12.here hx (hb hby at_109) rfl rfl rfl ?_
            obtain ⟨cq_14, kq_14, q_14a, q_14b, q_14c⟩ := isOf hZ e_12 E_b_10
            obtain ⟨_, _, ⟨T_14, L_14, k_14, n_14⟩, -, X_14, ⟨Lc_14, hQ_14, l_14, y_14, z_14⟩, st_14⟩ := X_12.virtualBack hx (y := (⟨"com/example/orbyt/orbyt/IndexRange", "isEmpty", "()Z"⟩ : MethodName)) (z := (⟨"com/example/orbyt/orbyt/IndexRange", "isEmpty", "()Z"⟩ : MethodName)) hown (mvT hZ (hw _ (List.mem_of_getElem? (i := 28) rfl))) (mvT hZ (hw _ (List.mem_of_getElem? (i := 29) rfl))) (notFace_of_selects (args := #[]) (mvT hZ (hw _ (List.mem_of_getElem? (i := 31) rfl)))) (mvT hZ (hw _ (List.mem_of_getElem? (i := 31) rfl))) (mvT hZ (hw _ (List.mem_of_getElem? (i := 30) rfl))) (by decide) (backOf (W := 1) (rm6 l Z a0 hw [] b_10 fi la h_11 n0 Zs F_first_b_10 F_last_b_10) hZ (hw _ (List.mem_of_getElem? (i := 32) rfl)) (hw _ (List.mem_of_getElem? (i := 3) rfl)) (by decide) (by decide)) q_14a q_14c (g := (mkF m 111 #[.val (.long q1), .second, .val (.long q2), .second, .val (.int p3), .val (.int p4), .val (.long (4611686018427387903 : Int64)), .second, .val (.long fi), .second, .val (.long la), .second, .val (.ref b_10), .val (.long r1), .second, .val (.long ((la - fi) + (1 : Int64))), .second] [(.ref b_10), (.int (1 : Int32))])) rfl (by rw [hml]; rfl) (Steps.refl _) (argsL := []) (rest := [(.int (1 : Int32))]) (lenOf pd_4 rfl) rfl (by show 2 * 0 + _ ≤ _; exact Nat.le_of_eq rfl) (hb hby at_111) (fun _ _ => ⟨rfl, e_12, (by decide : 1 + 0 ≤ _), (by decide : 2 + 0 ≤ _)⟩)
            dsimp only [Pt.U, Pt.locs, Pt.cells, Pt.slots] at X_14 l_14 y_14 z_14 st_14 hQ_14
            subst l_14 y_14 z_14
            obtain ⟨Nq_14, e_14, r2, rfl, hr2⟩ := hQ_14
            replace Nf := Fr.app Nf Nq_14
            refine Win.come st_14 ?_
            show Win p.tables e below _ (T_14.setTop (mkF m 114 #[.val (.long q1), .second, .val (.long q2), .second, .val (.int p3), .val (.int p4), .val (.long (4611686018427387903 : Int64)), .second, .val (.long fi), .second, .val (.long la), .second, .val (.ref b_10), .val (.long r1), .second, .val (.long ((la - fi) + (1 : Int64))), .second] [(.int r2), (.int (1 : Int32))]))
            by_cases hc114 : (1 : Int) = (r2).toInt
            · skip
              refine s_icmpNo (pc' := 117) X_14.here hx (hb hby at_114) rfl (teqI (x := (1 : Int32)) (y := r2) hc114).2 ?_
              refine s_iconst (pc' := 118) (z := (1 : Int32)) X_14.here hx (hb hby at_117) rfl rfl ?_
              refine s_goto (pc' := 122) X_14.here hx (hb hby at_118) (by decide) (by decide) ?_
              refine winN X_14 hx hlk e_14 (t := .boolean) Bd.returns (by simp) (hb hby at_122) (by decide) (by decide) (z' := 1) rfl ⟨Nf, rfl⟩
            · skip
              refine s_icmpYes (pc' := 121) X_14.here hx (hb hby at_114) (feqI (x := (1 : Int32)) (y := r2) hc114).2 (by decide) (by decide) ?_
              refine s_iconst (pc' := 122) (z := (0 : Int32)) X_14.here hx (hb hby at_121) rfl rfl ?_
              exfalso
              have h1 := c_lsub la fi
              have h2 := c_ladd (la - fi) 1
              have h3 := rng64 (la - fi)
              have h4 := rng64 (la - fi + 1)
              have h7 : (1 : Int64).toInt = 1 := rfl
              omega
          · skip
            refine s_ifYes (pc' := 108) X_12.here hx (hb hby at_101) (feqL (x := r1) (y := (0 : Int64)) hc101).2 (by decide) (by decide) ?_
            refine s_iconst (pc' := 109) (z := (0 : Int32)) X_12.here hx (hb hby at_108) rfl rfl ?_
            refine s_aload (pc' := 111) X_12.here hx (hb hby at_109) rfl rfl rfl ?_
            obtain ⟨cq_15, kq_15, q_15a, q_15b, q_15c⟩ := isOf hZ e_12 E_b_10
            obtain ⟨_, _, ⟨T_15, L_15, k_15, n_15⟩, -, X_15, ⟨Lc_15, hQ_15, l_15, y_15, z_15⟩, st_15⟩ := X_12.virtualBack hx (y := (⟨"com/example/orbyt/orbyt/IndexRange", "isEmpty", "()Z"⟩ : MethodName)) (z := (⟨"com/example/orbyt/orbyt/IndexRange", "isEmpty", "()Z"⟩ : MethodName)) hown (mvT hZ (hw _ (List.mem_of_getElem? (i := 28) rfl))) (mvT hZ (hw _ (List.mem_of_getElem? (i := 29) rfl))) (notFace_of_selects (args := #[]) (mvT hZ (hw _ (List.mem_of_getElem? (i := 31) rfl)))) (mvT hZ (hw _ (List.mem_of_getElem? (i := 31) rfl))) (mvT hZ (hw _ (List.mem_of_getElem? (i := 30) rfl))) (by decide) (backOf (W := 1) (rm6 l Z a0 hw [] b_10 fi la h_11 n0 Zs F_first_b_10 F_last_b_10) hZ (hw _ (List.mem_of_getElem? (i := 32) rfl)) (hw _ (List.mem_of_getElem? (i := 3) rfl)) (by decide) (by decide)) q_15a q_15c (g := (mkF m 111 #[.val (.long q1), .second, .val (.long q2), .second, .val (.int p3), .val (.int p4), .val (.long (4611686018427387903 : Int64)), .second, .val (.long fi), .second, .val (.long la), .second, .val (.ref b_10), .val (.long r1), .second, .val (.long ((la - fi) + (1 : Int64))), .second] [(.ref b_10), (.int (0 : Int32))])) rfl (by rw [hml]; rfl) (Steps.refl _) (argsL := []) (rest := [(.int (0 : Int32))]) (lenOf pd_4 rfl) rfl (by show 2 * 0 + _ ≤ _; exact Nat.le_of_eq rfl) (hb hby at_111) (fun _ _ => ⟨rfl, e_12, (by decide : 1 + 0 ≤ _), (by decide : 2 + 0 ≤ _)⟩)
            dsimp only [Pt.U, Pt.locs, Pt.cells, Pt.slots] at X_15 l_15 y_15 z_15 st_15 hQ_15
            subst l_15 y_15 z_15
            obtain ⟨Nq_15, e_15, r2, rfl, hr2⟩ := hQ_15
            replace Nf := Fr.app Nf Nq_15
            refine Win.come st_15 ?_
            show Win p.tables e below _ (T_15.setTop (mkF m 114 #[.val (.long q1), .second, .val (.long q2), .second, .val (.int p3), .val (.int p4), .val (.long (4611686018427387903 : Int64)), .second, .val (.long fi), .second, .val (.long la), .second, .val (.ref b_10), .val (.long r1), .second, .val (.long ((la - fi) + (1 : Int64))), .second] [(.int r2), (.int (0 : Int32))]))
            by_cases hc114 : (0 : Int) = (r2).toInt
            · skip
              refine s_icmpNo (pc' := 117) X_15.here hx (hb hby at_114) rfl (teqI (x := (0 : Int32)) (y := r2) hc114).2 ?_
              refine s_iconst (pc' := 118) (z := (1 : Int32)) X_15.here hx (hb hby at_117) rfl rfl ?_
              refine s_goto (pc' := 122) X_15.here hx (hb hby at_118) (by decide) (by decide) ?_
              refine winN X_15 hx hlk e_15 (t := .boolean) Bd.returns (by simp) (hb hby at_122) (by decide) (by decide) (z' := 1) rfl ⟨Nf, rfl⟩
            · skip
              refine s_icmpYes (pc' := 121) X_15.here hx (hb hby at_114) (feqI (x := (0 : Int32)) (y := r2) hc114).2 (by decide) (by decide) ?_
              refine s_iconst (pc' := 122) (z := (0 : Int32)) X_15.here hx (hb hby at_121) rfl rfl ?_
              exfalso
              have h1 := c_lsub la fi
              have h2 := c_ladd (la - fi) 1
              have h3 := rng64 (la - fi)
              have h4 := rng64 (la - fi + 1)
              have h7 : (1 : Int64).toInt = 1 := rfl
              omega
      · skip
        refine s_ifYes (pc' := 121) X_12.here hx (hb hby at_87) (feqL (x := r1) (y := ((la - fi) + (1 : Int64))) hc87).2 (by decide) (by decide) ?_
        refine s_iconst (pc' := 122) (z := (0 : Int32)) X_12.here hx (hb hby at_121) rfl rfl ?_
        exfalso
        have h1 := c_lsub la fi
        have h2 := c_ladd (la - fi) 1
        have h3 := rng64 (la - fi)
        have h4 := rng64 (la - fi + 1)
        have h7 : (1 : Int64).toInt = 1 := rfl
        omega
  · skip
    refine s_ifNo (pc' := 18) X0.here hx (hb hby at_15) rfl ((if0 _ _).trans (feqI (x := (p4 &&& (1 : Int32))) (y := (0 : Int32)) hc15).1) ?_
    refine s_lload (pc' := 20) X0.here hx (hb hby at_18) rfl rfl ?_
    refine s_iload (pc' := 22) X0.here hx (hb hby at_20) rfl rfl ?_
    refine s_iconst (pc' := 23) (z := (5 : Int32)) X0.here hx (hb hby at_22) rfl rfl ?_
    refine Win.go (fun _ k => iremM X0 hx rfl (hb hby at_23) rfl (by decide) k) ?_
    show Win p.tables e below _ (s₁.setTop (mkF m 24 #[.val (.long q1), .second, .val (.long q2), .second, .val (.int p3), .val (.int p4), .val (.long (4611686018427387903 : Int64)), .second, .val (.long fi), .second, .unset, .unset, .unset, .unset, .unset, .unset, .unset] [(.int (p3 % (5 : Int32))), (.long fi)]))
    refine Win.go (fun _ k => XS.i2l X0.here hx rfl (hb hby at_24) rfl k) ?_
    show Win p.tables e below _ (s₁.setTop (mkF m 25 #[.val (.long q1), .second, .val (.long q2), .second, .val (.int p3), .val (.int p4), .val (.long (4611686018427387903 : Int64)), .second, .val (.long fi), .second, .unset, .unset, .unset, .unset, .unset, .unset, .unset] [(.long ((p3 % (5 : Int32)).toInt64)), (.long fi)]))
    refine s_ladd (pc' := 26) X0.here hx (hb hby at_25) rfl ?_
    refine s_lstore (pc' := 28) (l' := #[.val (.long q1), .second, .val (.long q2), .second, .val (.int p3), .val (.int p4), .val (.long (4611686018427387903 : Int64)), .second, .val (.long fi), .second, .val (.long (fi + ((p3 % (5 : Int32)).toInt64))), .second, .unset, .unset, .unset, .unset, .unset]) X0.here hx (hb hby at_26) rfl rfl ?_
    generalize hla : (fi + ((p3 % (5 : Int32)).toInt64)) = la
    show Win p.tables e below _ (s₁.setTop (mkF m 28 #[.val (.long q1), .second, .val (.long q2), .second, .val (.int p3), .val (.int p4), .val (.long (4611686018427387903 : Int64)), .second, .val (.long fi), .second, .val (.long la), .second, .unset, .unset, .unset, .unset, .unset] []))
    have bla : -4 ≤ la.toInt - fi.toInt ∧ la.toInt - fi.toInt ≤ 4 := by
      have h1 := c_ladd fi ((p3 % (5 : Int32)).toInt64)
      rw [hla, c_i2l] at h1
      have h2 := c_irem p3 5 5 rfl
      have h3 := rng64 la
      by_cases h4 : 0 ≤ p3.toInt
      · have h5 := h2.1 h4; omega
      · have h5 := h2.2 (by omega); omega
    refine s_goto (pc' := 39) X0.here hx (hb hby at_28) (by decide) (by decide) ?_
    obtain ⟨T_16, h_16, X_16, e_16, Ex_16, A_16, D_16, -, st_16⟩ := newO X0 hx hZ hown (hw _ (List.mem_of_getElem? (i := 1) rfl)) (hw _ (List.mem_of_getElem? (i := 2) rfl)) (hw _ (List.mem_of_getElem? (i := 3) rfl)) e0 (g := (mkF m 39 #[.val (.long q1), .second, .val (.long q2), .second, .val (.int p3), .val (.int p4), .val (.long (4611686018427387903 : Int64)), .second, .val (.long fi), .second, .val (.long la), .second, .unset, .unset, .unset, .unset, .unset] [])) rfl (hb hby at_39) (by decide) (by decide)
    obtain ⟨b_16, g_16⟩ : ∃ z, z = h0.size := ⟨_, rfl⟩
    have g_b_16 : n0 ≤ b_16 := Nat.le_trans Zs (Nat.le_of_eq g_16.symm)
    rw [← g_16] at A_16 D_16 st_16
    replace Zs := Nat.le_trans Zs Ex_16.1
    have E_b_16 := A_16
    have lt_b_16 := E_b_16.lt
    have F_first_b_16 : Fld Z h_16 b_16 "com/example/orbyt/orbyt/IndexRange" "first" "J" (.long (0 : Int64)) := D_16 (Or.inr (hw _ (List.mem_of_getElem? (i := 16) rfl))) (ty := .long) (by decide)
    have F_last_b_16 : Fld Z h_16 b_16 "com/example/orbyt/orbyt/IndexRange" "last" "J" (.long (0 : Int64)) := D_16 (Or.inr (hw _ (List.mem_of_getElem? (i := 18) rfl))) (ty := .long) (by decide)
    refine Win.go st_16 ?_
    show Win p.tables e below _ (T_16.setTop (mkF m 42 #[.val (.long q1), .second, .val (.long q2), .second, .val (.int p3), .val (.int p4), .val (.long (4611686018427387903 : Int64)), .second, .val (.long fi), .second, .val (.long la), .second, .unset, .unset, .unset, .unset, .unset] [(.ref b_16)]))
    refine s_dup (pc' := 43) X_16.here hx (hb hby at_42) rfl rfl ?_
    refine s_lload (pc' := 45) X_16.here hx (hb hby at_43) rfl rfl ?_
    refine s_lload (pc' := 47) X_16.here hx (hb hby at_45) rfl rfl ?_
    obtain ⟨_, _, ⟨T_17, L_17, k_17, n_17⟩, -, X_17, ⟨Lc_17, hQ_17, l_17, y_17, z_17⟩, st_17⟩ := X_16.specialBack hx (y := (⟨"com/example/orbyt/orbyt/IndexRange", "<init>", "(JJ)V"⟩ : MethodName)) rfl hown (mvT hZ (hw _ (List.mem_of_getElem? (i := 4) rfl))) (mvT hZ (hw _ (List.mem_of_getElem? (i := 5) rfl))) (mvT hZ (hw _ (List.mem_of_getElem? (i := 6) rfl))) (by decide) (backOf (W := 1) (rm1 l Z a0 hw [] b_16 fi la h_16 n0 Zs E_b_16 F_first_b_16 F_last_b_16 g_b_16) hZ (hw _ (List.mem_of_getElem? (i := 6) rfl)) (hw _ (List.mem_of_getElem? (i := 3) rfl)) (by decide) (by decide)) (g := (mkF m 47 #[.val (.long q1), .second, .val (.long q2), .second, .val (.int p3), .val (.int p4), .val (.long (4611686018427387903 : Int64)), .second, .val (.long fi), .second, .val (.long la), .second, .unset, .unset, .unset, .unset, .unset] [(.long la), (.long fi), (.ref b_16), (.ref b_16)])) rfl (by rw [hml]; rfl) (Steps.refl _) (a := b_16) (argsL := [(.long fi), (.long la)]) (rest := [(.ref b_16)]) (lenOf pd_2 rfl) rfl (by show 2 * 0 + _ ≤ _; exact Nat.le_of_eq rfl) (hb hby at_47) (fun _ _ => ⟨rfl, e_16, (by decide : 1 + 0 ≤ _), (by decide : 2 + 0 ≤ _)⟩)
    dsimp only [Pt.U, Pt.locs, Pt.cells, Pt.slots] at X_17 l_17 y_17 z_17 st_17 hQ_17
    subst l_17 y_17 z_17
    obtain ⟨h_17, e_17⟩ : ∃ z, T_17.heap = z := ⟨_, rfl⟩
    rw [e_17] at hQ_17
    obtain ⟨Nq_17, K_17, n_17_F_first_b_16, n_17_F_last_b_16, rfl⟩ := hQ_17
    replace Nf := Fr.app Nf Nq_17
    replace E_b_16 := E_b_16.keep K_17
    clear F_first_b_16
    clear F_last_b_16
    replace lt_b_16 := Nat.lt_of_lt_of_le lt_b_16 K_17.1
    replace Zs := Nat.le_trans Zs K_17.1
    have F_first_b_16 := n_17_F_first_b_16
    have F_last_b_16 := n_17_F_last_b_16
    refine Win.come st_17 ?_
    show Win p.tables e below _ (T_17.setTop (mkF m 50 #[.val (.long q1), .second, .val (.long q2), .second, .val (.int p3), .val (.int p4), .val (.long (4611686018427387903 : Int64)), .second, .val (.long fi), .second, .val (.long la), .second, .unset, .unset, .unset, .unset, .unset] [(.ref b_16)]))
    refine s_astore (pc' := 52) (l' := #[.val (.long q1), .second, .val (.long q2), .second, .val (.int p3), .val (.int p4), .val (.long (4611686018427387903 : Int64)), .second, .val (.long fi), .second, .val (.long la), .second, .val (.ref b_16), .unset, .unset, .unset, .unset]) X_17.here hx (hb hby at_50) rfl rfl rfl ?_
    refine s_aload (pc' := 54) X_17.here hx (hb hby at_52) rfl rfl rfl ?_
    obtain ⟨cq_18, kq_18, q_18a, q_18b, q_18c⟩ := isOf hZ e_17 E_b_16
    obtain ⟨_, _, ⟨T_18, L_18, k_18, n_18⟩, -, X_18, ⟨Lc_18, hQ_18, l_18, y_18, z_18⟩, st_18⟩ := X_17.virtualBack hx (y := (⟨"com/example/orbyt/orbyt/IndexRange", "count", "()J"⟩ : MethodName)) (z := (⟨"com/example/orbyt/orbyt/IndexRange", "count", "()J"⟩ : MethodName)) hown (mvT hZ (hw _ (List.mem_of_getElem? (i := 19) rfl))) (mvT hZ (hw _ (List.mem_of_getElem? (i := 20) rfl))) (notFace_of_selects (args := #[]) (mvT hZ (hw _ (List.mem_of_getElem? (i := 22) rfl)))) (mvT hZ (hw _ (List.mem_of_getElem? (i := 22) rfl))) (mvT hZ (hw _ (List.mem_of_getElem? (i := 21) rfl))) (by decide) (backOf (W := 0) (rm4 l Z a0 hw [] b_16 fi la h_17 n0 Zs F_first_b_16 F_last_b_16 (by omega)) hZ (hw _ (List.mem_of_getElem? (i := 23) rfl)) (hw _ (List.mem_of_getElem? (i := 3) rfl)) (by decide) (by decide)) q_18a q_18c (g := (mkF m 54 #[.val (.long q1), .second, .val (.long q2), .second, .val (.int p3), .val (.int p4), .val (.long (4611686018427387903 : Int64)), .second, .val (.long fi), .second, .val (.long la), .second, .val (.ref b_16), .unset, .unset, .unset, .unset] [(.ref b_16)])) rfl (by rw [hml]; rfl) (Steps.refl _) (argsL := []) (rest := []) (lenOf pd_3 rfl) rfl (by show 2 * 0 + _ ≤ _; exact Nat.le_of_eq rfl) (hb hby at_54) (fun _ _ => ⟨rfl, e_17, (by decide : 1 + 0 ≤ _), (by decide : 2 + 0 ≤ _)⟩)
    dsimp only [Pt.U, Pt.locs, Pt.cells, Pt.slots] at X_18 l_18 y_18 z_18 st_18 hQ_18
    subst l_18 y_18 z_18
    obtain ⟨Nq_18, e_18, r1, rfl, hr1⟩ := hQ_18
    replace Nf := Fr.app Nf Nq_18
    refine Win.come st_18 ?_
    show Win p.tables e below _ (T_18.setTop (mkF m 57 #[.val (.long q1), .second, .val (.long q2), .second, .val (.int p3), .val (.int p4), .val (.long (4611686018427387903 : Int64)), .second, .val (.long fi), .second, .val (.long la), .second, .val (.ref b_16), .unset, .unset, .unset, .unset] [(.long r1)]))
    obtain ⟨hr1a, hr1b⟩ := hr1
    refine s_lstore (pc' := 59) (l' := #[.val (.long q1), .second, .val (.long q2), .second, .val (.int p3), .val (.int p4), .val (.long (4611686018427387903 : Int64)), .second, .val (.long fi), .second, .val (.long la), .second, .val (.ref b_16), .val (.long r1), .second, .unset, .unset]) X_18.here hx (hb hby at_57) rfl rfl ?_
    refine s_lload (pc' := 61) X_18.here hx (hb hby at_59) rfl rfl ?_
    refine s_lload (pc' := 63) X_18.here hx (hb hby at_61) rfl rfl ?_
    refine s_lcmp (pc' := 64) X_18.here hx (hb hby at_63) rfl ?_
    by_cases hc64 : (la).toInt < (fi).toInt
    · skip
      refine s_ifNo (pc' := 67) X_18.here hx (hb hby at_64) rfl (tltL (x := la) (y := fi) hc64).2.2.2 ?_
      refine s_lconst (pc' := 68) (z := (0 : Int64)) X_18.here hx (hb hby at_67) rfl rfl ?_
      refine s_lstore (pc' := 70) (l' := #[.val (.long q1), .second, .val (.long q2), .second, .val (.int p3), .val (.int p4), .val (.long (4611686018427387903 : Int64)), .second, .val (.long fi), .second, .val (.long la), .second, .val (.ref b_16), .val (.long r1), .second, .val (.long (0 : Int64)), .second]) X_18.here hx (hb hby at_68) rfl rfl ?_
      refine s_goto (pc' := 82) X_18.here hx (hb hby at_70) (by decide) (by decide) ?_
      refine s_lload (pc' := 84) X_18.here hx (hb hby at_82) rfl rfl ?_
      refine s_lload (pc' := 86) X_18.here hx (hb hby at_84) rfl rfl ?_
      refine s_lcmp (pc' := 87) X_18.here hx (hb hby at_86) rfl ?_
      by_cases hc87 : (r1).toInt = (0 : Int)
      · skip
        refine s_ifNo (pc' := 90) X_18.here hx (hb hby at_87) rfl (teqL (x := r1) (y := (0 : Int64)) hc87).2 ?_
        refine s_lload (pc' := 92) X_18.here hx (hb hby at_90) rfl rfl ?_
        refine s_lconst (pc' := 93) (z := (0 : Int64)) X_18.here hx (hb hby at_92) rfl rfl ?_
        refine s_lcmp (pc' := 94) X_18.here hx (hb hby at_93) rfl ?_
        by_cases hc94 : (r1).toInt < (0 : Int)
        · skip
          refine s_ifYes (pc' := 121) X_18.here hx (hb hby at_94) (tltL (x := r1) (y := (0 : Int64)) hc94).1 (by decide) (by decide) ?_
          refine s_iconst (pc' := 122) (z := (0 : Int32)) X_18.here hx (hb hby at_121) rfl rfl ?_
          exfalso
          have h1 := c_lsub la fi
          have h2 := c_ladd (la - fi) 1
          have h3 := rng64 (la - fi)
          have h4 := rng64 (la - fi + 1)
          have h7 : (1 : Int64).toInt = 1 := rfl
          omega
        · skip
          refine s_ifNo (pc' := 97) X_18.here hx (hb hby at_94) rfl (fltL (x := r1) (y := (0 : Int64)) hc94).1 ?_
          refine s_lload (pc' := 99) X_18.here hx (hb hby at_97) rfl rfl ?_
          refine s_lconst (pc' := 100) (z := (0 : Int64)) X_18.here hx (hb hby at_99) rfl rfl ?_
          refine s_lcmp (pc' := 101) X_18.here hx (hb hby at_100) rfl ?_
          refine s_ifNo (pc' := 104) X_18.here hx (hb hby at_101) rfl (teqL (x := r1) (y := (0 : Int64)) hc87).2 ?_
          refine s_iconst (pc' := 105) (z := (1 : Int32)) X_18.here hx (hb hby at_104) rfl rfl ?_
          refine s_goto (pc' := 109) X_18.here hx (hb hby at_105) (by decide) (by decide) ?_
          refine s_aload (pc' := 111) X_18.here hx (hb hby at_109) rfl rfl rfl ?_
          obtain ⟨cq_19, kq_19, q_19a, q_19b, q_19c⟩ := isOf hZ e_18 E_b_16
          obtain ⟨_, _, ⟨T_19, L_19, k_19, n_19⟩, -, X_19, ⟨Lc_19, hQ_19, l_19, y_19, z_19⟩, st_19⟩ := X_18.virtualBack hx (y := (⟨"com/example/orbyt/orbyt/IndexRange", "isEmpty", "()Z"⟩ : MethodName)) (z := (⟨"com/example/orbyt/orbyt/IndexRange", "isEmpty", "()Z"⟩ : MethodName)) hown (mvT hZ (hw _ (List.mem_of_getElem? (i := 28) rfl))) (mvT hZ (hw _ (List.mem_of_getElem? (i := 29) rfl))) (notFace_of_selects (args := #[]) (mvT hZ (hw _ (List.mem_of_getElem? (i := 31) rfl)))) (mvT hZ (hw _ (List.mem_of_getElem? (i := 31) rfl))) (mvT hZ (hw _ (List.mem_of_getElem? (i := 30) rfl))) (by decide) (backOf (W := 1) (rm6 l Z a0 hw [] b_16 fi la h_17 n0 Zs F_first_b_16 F_last_b_16) hZ (hw _ (List.mem_of_getElem? (i := 32) rfl)) (hw _ (List.mem_of_getElem? (i := 3) rfl)) (by decide) (by decide)) q_19a q_19c (g := (mkF m 111 #[.val (.long q1), .second, .val (.long q2), .second, .val (.int p3), .val (.int p4), .val (.long (4611686018427387903 : Int64)), .second, .val (.long fi), .second, .val (.long la), .second, .val (.ref b_16), .val (.long r1), .second, .val (.long (0 : Int64)), .second] [(.ref b_16), (.int (1 : Int32))])) rfl (by rw [hml]; rfl) (Steps.refl _) (argsL := []) (rest := [(.int (1 : Int32))]) (lenOf pd_4 rfl) rfl (by show 2 * 0 + _ ≤ _; exact Nat.le_of_eq rfl) (hb hby at_111) (fun _ _ => ⟨rfl, e_18, (by decide : 1 + 0 ≤ _), (by decide : 2 + 0 ≤ _)⟩)
          dsimp only [Pt.U, Pt.locs, Pt.cells, Pt.slots] at X_19 l_19 y_19 z_19 st_19 hQ_19
          subst l_19 y_19 z_19
          obtain ⟨Nq_19, e_19, r2, rfl, hr2⟩ := hQ_19
          replace Nf := Fr.app Nf Nq_19
          refine Win.come st_19 ?_
          show Win p.tables e below _ (T_19.setTop (mkF m 114 #[.val (.long q1), .second, .val (.long q2), .second, .val (.int p3), .val (.int p4), .val (.long (4611686018427387903 : Int64)), .second, .val (.long fi), .second, .val (.long la), .second, .val (.ref b_16), .val (.long r1), .second, .val (.long (0 : Int64)), .second] [(.int r2), (.int (1 : Int32))]))
          by_cases hc114 : (1 : Int) = (r2).toInt
          · skip
            refine s_icmpNo (pc' := 117) X_19.here hx (hb hby at_114) rfl (teqI (x := (1 : Int32)) (y := r2) hc114).2 ?_
            refine s_iconst (pc' := 118) (z := (1 : Int32)) X_19.here hx (hb hby at_117) rfl rfl ?_
            refine s_goto (pc' := 122) X_19.here hx (hb hby at_118) (by decide) (by decide) ?_
            refine winN X_19 hx hlk e_19 (t := .boolean) Bd.returns (by simp) (hb hby at_122) (by decide) (by decide) (z' := 1) rfl ⟨Nf, rfl⟩
          · skip
            refine s_icmpYes (pc' := 121) X_19.here hx (hb hby at_114) (feqI (x := (1 : Int32)) (y := r2) hc114).2 (by decide) (by decide) ?_
            refine s_iconst (pc' := 122) (z := (0 : Int32)) X_19.here hx (hb hby at_121) rfl rfl ?_
            exfalso
            have h1 := c_lsub la fi
            have h2 := c_ladd (la - fi) 1
            have h3 := rng64 (la - fi)
            have h4 := rng64 (la - fi + 1)
            have h7 : (1 : Int64).toInt = 1 := rfl
            omega
      · skip
        refine s_ifYes (pc' := 121) X_18.here hx (hb hby at_87) (feqL (x := r1) (y := (0 : Int64)) hc87).2 (by decide) (by decide) ?_
        refine s_iconst (pc' := 122) (z := (0 : Int32)) X_18.here hx (hb hby at_121) rfl rfl ?_
        exfalso
        have h1 := c_lsub la fi
        have h2 := c_ladd (la - fi) 1
        have h3 := rng64 (la - fi)
        have h4 := rng64 (la - fi + 1)
        have h7 : (1 : Int64).toInt = 1 := rfl
        omega
    · skip
      refine s_ifYes (pc' := 73) X_18.here hx (hb hby at_64) (fltL (x := la) (y := fi) hc64).2.2.2 (by decide) (by decide) ?_
      refine s_lload (pc' := 75) X_18.here hx (hb hby at_73) rfl rfl ?_
      refine s_lload (pc' := 77) X_18.here hx (hb hby at_75) rfl rfl ?_
      refine s_lsub (pc' := 78) X_18.here hx (hb hby at_77) rfl ?_
      refine s_lconst (pc' := 79) (z := (1 : Int64)) X_18.here hx (hb hby at_78) rfl rfl ?_
      refine s_ladd (pc' := 80) X_18.here hx (hb hby at_79) rfl ?_
      refine s_lstore (pc' := 82) (l' := #[.val (.long q1), .second, .val (.long q2), .second, .val (.int p3), .val (.int p4), .val (.long (4611686018427387903 : Int64)), .second, .val (.long fi), .second, .val (.long la), .second, .val (.ref b_16), .val (.long r1), .second, .val (.long ((la - fi) + (1 : Int64))), .second]) X_18.here hx (hb hby at_80) rfl rfl ?_
      refine s_lload (pc' := 84) X_18.here hx (hb hby at_82) rfl rfl ?_
      refine s_lload (pc' := 86) X_18.here hx (hb hby at_84) rfl rfl ?_
      refine s_lcmp (pc' := 87) X_18.here hx (hb hby at_86) rfl ?_
      by_cases hc87 : (r1).toInt = (((la - fi) + (1 : Int64))).toInt
      · skip
        refine s_ifNo (pc' := 90) X_18.here hx (hb hby at_87) rfl (teqL (x := r1) (y := ((la - fi) + (1 : Int64))) hc87).2 ?_
        refine s_lload (pc' := 92) X_18.here hx (hb hby at_90) rfl rfl ?_
        refine s_lconst (pc' := 93) (z := (0 : Int64)) X_18.here hx (hb hby at_92) rfl rfl ?_
        refine s_lcmp (pc' := 94) X_18.here hx (hb hby at_93) rfl ?_
        by_cases hc94 : (r1).toInt < (0 : Int)
        · skip
          refine s_ifYes (pc' := 121) X_18.here hx (hb hby at_94) (tltL (x := r1) (y := (0 : Int64)) hc94).1 (by decide) (by decide) ?_
          refine s_iconst (pc' := 122) (z := (0 : Int32)) X_18.here hx (hb hby at_121) rfl rfl ?_
          exfalso
          have h1 := c_lsub la fi
          have h2 := c_ladd (la - fi) 1
          have h3 := rng64 (la - fi)
          have h4 := rng64 (la - fi + 1)
          have h7 : (1 : Int64).toInt = 1 := rfl
          omega
        · skip
          refine s_ifNo (pc' := 97) X_18.here hx (hb hby at_94) rfl (fltL (x := r1) (y := (0 : Int64)) hc94).1 ?_
          refine s_lload (pc' := 99) X_18.here hx (hb hby at_97) rfl rfl ?_
          refine s_lconst (pc' := 100) (z := (0 : Int64)) X_18.here hx (hb hby at_99) rfl rfl ?_
          refine s_lcmp (pc' := 101) X_18.here hx (hb hby at_100) rfl ?_
          by_cases hc101 : (r1).toInt = (0 : Int)
          · skip
            refine s_ifNo (pc' := 104) X_18.here hx (hb hby at_101) rfl (teqL (x := r1) (y := (0 : Int64)) hc101).2 ?_
            refine s_iconst (pc' := 105) (z := (1 : Int32)) X_18.here hx (hb hby at_104) rfl rfl ?_
            refine s_goto (pc' := 109) X_18.here hx (hb hby at_105) (by decide) (by decide) ?_
            refine s_aload (pc' := 111) X_18.here hx (hb hby at_109) rfl rfl rfl ?_
            obtain ⟨cq_20, kq_20, q_20a, q_20b, q_20c⟩ := isOf hZ e_18 E_b_16
            obtain ⟨_, _, ⟨T_20, L_20, k_20, n_20⟩, -, X_20, ⟨Lc_20, hQ_20, l_20, y_20, z_20⟩, st_20⟩ := X_18.virtualBack hx (y := (⟨"com/example/orbyt/orbyt/IndexRange", "isEmpty", "()Z"⟩ : MethodName)) (z := (⟨"com/example/orbyt/orbyt/IndexRange", "isEmpty", "()Z"⟩ : MethodName)) hown (mvT hZ (hw _ (List.mem_of_getElem? (i := 28) rfl))) (mvT hZ (hw _ (List.mem_of_getElem? (i := 29) rfl))) (notFace_of_selects (args := #[]) (mvT hZ (hw _ (List.mem_of_getElem? (i := 31) rfl)))) (mvT hZ (hw _ (List.mem_of_getElem? (i := 31) rfl))) (mvT hZ (hw _ (List.mem_of_getElem? (i := 30) rfl))) (by decide) (backOf (W := 1) (rm6 l Z a0 hw [] b_16 fi la h_17 n0 Zs F_first_b_16 F_last_b_16) hZ (hw _ (List.mem_of_getElem? (i := 32) rfl)) (hw _ (List.mem_of_getElem? (i := 3) rfl)) (by decide) (by decide)) q_20a q_20c (g := (mkF m 111 #[.val (.long q1), .second, .val (.long q2), .second, .val (.int p3), .val (.int p4), .val (.long (4611686018427387903 : Int64)), .second, .val (.long fi), .second, .val (.long la), .second, .val (.ref b_16), .val (.long r1), .second, .val (.long ((la - fi) + (1 : Int64))), .second] [(.ref b_16), (.int (1 : Int32))])) rfl (by rw [hml]; rfl) (Steps.refl _) (argsL := []) (rest := [(.int (1 : Int32))]) (lenOf pd_4 rfl) rfl (by show 2 * 0 + _ ≤ _; exact Nat.le_of_eq rfl) (hb hby at_111) (fun _ _ => ⟨rfl, e_18, (by decide : 1 + 0 ≤ _), (by decide : 2 + 0 ≤ _)⟩)
            dsimp only [Pt.U, Pt.locs, Pt.cells, Pt.slots] at X_20 l_20 y_20 z_20 st_20 hQ_20
            subst l_20 y_20 z_20
            obtain ⟨Nq_20, e_20, r2, rfl, hr2⟩ := hQ_20
            replace Nf := Fr.app Nf Nq_20
            refine Win.come st_20 ?_
            show Win p.tables e below _ (T_20.setTop (mkF m 114 #[.val (.long q1), .second, .val (.long q2), .second, .val (.int p3), .val (.int p4), .val (.long (4611686018427387903 : Int64)), .second, .val (.long fi), .second, .val (.long la), .second, .val (.ref b_16), .val (.long r1), .second, .val (.long ((la - fi) + (1 : Int64))), .second] [(.int r2), (.int (1 : Int32))]))
            by_cases hc114 : (1 : Int) = (r2).toInt
            · skip
              refine s_icmpNo (pc' := 117) X_20.here hx (hb hby at_114) rfl (teqI (x := (1 : Int32)) (y := r2) hc114).2 ?_
              refine s_iconst (pc' := 118) (z := (1 : Int32)) X_20.here hx (hb hby at_117) rfl rfl ?_
              refine s_goto (pc' := 122) X_20.here hx (hb hby at_118) (by decide) (by decide) ?_
              refine winN X_20 hx hlk e_20 (t := .boolean) Bd.returns (by simp) (hb hby at_122) (by decide) (by decide) (z' := 1) rfl ⟨Nf, rfl⟩
            · skip
              refine s_icmpYes (pc' := 121) X_20.here hx (hb hby at_114) (feqI (x := (1 : Int32)) (y := r2) hc114).2 (by decide) (by decide) ?_
              refine s_iconst (pc' := 122) (z := (0 : Int32)) X_20.here hx (hb hby at_121) rfl rfl ?_
              exfalso
              have h1 := c_lsub la fi
              have h2 := c_ladd (la - fi) 1
              have h3 := rng64 (la - fi)
              have h4 := rng64 (la - fi + 1)
              have h7 : (1 : Int64).toInt = 1 := rfl
              omega
          · skip
            refine s_ifYes (pc' := 108) X_18.here hx (hb hby at_101) (feqL (x := r1) (y := (0 : Int64)) hc101).2 (by decide) (by decide) ?_
            refine s_iconst (pc' := 109) (z := (0 : Int32)) X_18.here hx (hb hby at_108) rfl rfl ?_
            refine s_aload (pc' := 111) X_18.here hx (hb hby at_109) rfl rfl rfl ?_
            obtain ⟨cq_21, kq_21, q_21a, q_21b, q_21c⟩ := isOf hZ e_18 E_b_16
            obtain ⟨_, _, ⟨T_21, L_21, k_21, n_21⟩, -, X_21, ⟨Lc_21, hQ_21, l_21, y_21, z_21⟩, st_21⟩ := X_18.virtualBack hx (y := (⟨"com/example/orbyt/orbyt/IndexRange", "isEmpty", "()Z"⟩ : MethodName)) (z := (⟨"com/example/orbyt/orbyt/IndexRange", "isEmpty", "()Z"⟩ : MethodName)) hown (mvT hZ (hw _ (List.mem_of_getElem? (i := 28) rfl))) (mvT hZ (hw _ (List.mem_of_getElem? (i := 29) rfl))) (notFace_of_selects (args := #[]) (mvT hZ (hw _ (List.mem_of_getElem? (i := 31) rfl)))) (mvT hZ (hw _ (List.mem_of_getElem? (i := 31) rfl))) (mvT hZ (hw _ (List.mem_of_getElem? (i := 30) rfl))) (by decide) (backOf (W := 1) (rm6 l Z a0 hw [] b_16 fi la h_17 n0 Zs F_first_b_16 F_last_b_16) hZ (hw _ (List.mem_of_getElem? (i := 32) rfl)) (hw _ (List.mem_of_getElem? (i := 3) rfl)) (by decide) (by decide)) q_21a q_21c (g := (mkF m 111 #[.val (.long q1), .second, .val (.long q2), .second, .val (.int p3), .val (.int p4), .val (.long (4611686018427387903 : Int64)), .second, .val (.long fi), .second, .val (.long la), .second, .val (.ref b_16), .val (.long r1), .second, .val (.long ((la - fi) + (1 : Int64))), .second] [(.ref b_16), (.int (0 : Int32))])) rfl (by rw [hml]; rfl) (Steps.refl _) (argsL := []) (rest := [(.int (0 : Int32))]) (lenOf pd_4 rfl) rfl (by show 2 * 0 + _ ≤ _; exact Nat.le_of_eq rfl) (hb hby at_111) (fun _ _ => ⟨rfl, e_18, (by decide : 1 + 0 ≤ _), (by decide : 2 + 0 ≤ _)⟩)
            dsimp only [Pt.U, Pt.locs, Pt.cells, Pt.slots] at X_21 l_21 y_21 z_21 st_21 hQ_21
            subst l_21 y_21 z_21
            obtain ⟨Nq_21, e_21, r2, rfl, hr2⟩ := hQ_21
            replace Nf := Fr.app Nf Nq_21
            refine Win.come st_21 ?_
            show Win p.tables e below _ (T_21.setTop (mkF m 114 #[.val (.long q1), .second, .val (.long q2), .second, .val (.int p3), .val (.int p4), .val (.long (4611686018427387903 : Int64)), .second, .val (.long fi), .second, .val (.long la), .second, .val (.ref b_16), .val (.long r1), .second, .val (.long ((la - fi) + (1 : Int64))), .second] [(.int r2), (.int (0 : Int32))]))
            by_cases hc114 : (0 : Int) = (r2).toInt
            · skip
              refine s_icmpNo (pc' := 117) X_21.here hx (hb hby at_114) rfl (teqI (x := (0 : Int32)) (y := r2) hc114).2 ?_
              refine s_iconst (pc' := 118) (z := (1 : Int32)) X_21.here hx (hb hby at_117) rfl rfl ?_
              refine s_goto (pc' := 122) X_21.here hx (hb hby at_118) (by decide) (by decide) ?_
              refine winN X_21 hx hlk e_21 (t := .boolean) Bd.returns (by simp) (hb hby at_122) (by decide) (by decide) (z' := 1) rfl ⟨Nf, rfl⟩
            · skip
              refine s_icmpYes (pc' := 121) X_21.here hx (hb hby at_114) (feqI (x := (0 : Int32)) (y := r2) hc114).2 (by decide) (by decide) ?_
              refine s_iconst (pc' := 122) (z := (0 : Int32)) X_21.here hx (hb hby at_121) rfl rfl ?_
              exfalso
              have h1 := c_lsub la fi
              have h2 := c_ladd (la - fi) 1
              have h3 := rng64 (la - fi)
              have h4 := rng64 (la - fi + 1)
              have h7 : (1 : Int64).toInt = 1 := rfl
              omega
      · skip
        refine s_ifYes (pc' := 121) X_18.here hx (hb hby at_87) (feqL (x := r1) (y := ((la - fi) + (1 : Int64))) hc87).2 (by decide) (by decide) ?_
        refine s_iconst (pc' := 122) (z := (0 : Int32)) X_18.here hx (hb hby at_121) rfl rfl ?_
        exfalso
        have h1 := c_lsub la fi
        have h2 := c_ladd (la - fi) 1
        have h3 := rng64 (la - fi)
        have h4 := rng64 (la - fi + 1)
        have h7 : (1 : Int64).toInt = 1 := rfl
        omega
set_option maxRecDepth 65536 in
set_option maxHeartbeats 40000000 in
theorem comes_1 {Post : Tables → Env → Array Value → State → Outcome → State → Prop} (hpost : ∀ tb e args s v u, (limb_1_1.after args s (.returned v) u = true ∧ limb_1_2.after args s (.returned v) u = true ∧ True) → FrameEnd s (.returned v) u (Jvm.fieldLocs frame_1_writes args s ++ Jvm.arrayLocs frame_1_arrays args s ++ Jvm.staticLocs frame_1_statics s) 16 128 → Post tb e args s (.returned v) u) :
    ArmFor flags0 classFile x code maxLocals ret World_1 tables_1 room_1 Calls_1 rest_1 Pre_1 Post := by
  intro l hfl _ _ p e ha hc hk s m args below hf hA hF happ hP
  obtain ⟨hcalls, hrest, hpre⟩ := hP
  obtain ⟨-, -, -, hnamed, -, -, -, hat⟩ := (Spec.applies_iff hf).mp happ
  obtain ⟨hg, hn⟩ := and_e (Cond.before_iff.mp (show (Jvm.Cond.and given_1 narrow_1).before args s = true from hpre))
  obtain ⟨g1, g2⟩ := and_e hg
  obtain ⟨g3, g4⟩ := and_e g2
  obtain ⟨g5, g6⟩ := and_e g4
  obtain ⟨g7, g8⟩ := and_e g6
  obtain ⟨w0, w1, w2, w3, rfl⟩ : ∃ w0 w1 w2 w3 : Value, args = #[w0, w1, w2, w3] := by
    have hs : args.size = 4 := by simpa [Cond.value, given_1] using g1
    obtain ⟨L⟩ := args
    match L, hs with
    | [w0, w1, w2, w3], _ => exact ⟨w0, w1, w2, w3, rfl⟩
  have hw := fun d (hd : d ∈ tables_1) => atoms_spec (ws := Jvm.Cond.code x code maxLocals ret :: tables_1) hat d (List.mem_cons_of_mem _ hd)
  have hfit : Fit s := fun {y c} hc i hi => by
    obtain ⟨ha, rfl⟩ := Array.getElem?_eq_some_iff.mp hc
    have q := List.all_eq_true.mp ((Array.all_eq_true_iff_forall_mem.mp hF) _ (Array.getElem_mem ha)) i (List.mem_range.mpr hi)
    simpa [Array.getElem?_eq_getElem hi] using q
  obtain ⟨i0, ei0⟩ := isL_v g3
  obtain rfl : w0 = (.long i0) := Option.some.inj ei0
  obtain ⟨i1, ei1⟩ := isL_v g5
  obtain rfl : w1 = (.long i1) := Option.some.inj ei1
  obtain ⟨i2, ei2⟩ := is_v g7
  obtain rfl : w2 = (.int i2) := Option.some.inj ei2
  obtain ⟨i3, ei3⟩ := is_v g8
  obtain rfl : w3 = (.int i3) := Option.some.inj ei3
  obtain ⟨n, o, h1, h2, h3, _, L, rfl, ⟨N, rfl⟩, hq⟩ := rm0 l s _ hw tables_1 i0 i1 i2 i3 s.heap s.heap.size (Nat.le_refl _) p e ha hc hk s m _ below hf ((Spec.applies_iff_loose hf).mp happ).1 ⟨rfl, State.Warmed39.refl s, rfl⟩ trivial
  refine ⟨n, _, h1, h2, h3, hpost _ _ _ _ _ _ ⟨Cond.after_iff.mpr rfl, Cond.after_iff.mpr (eq_i res_at (Term.int_eval (1)) rfl), trivial⟩ ⟨hq.1, hq.2.1, (hq.2.2.sift fun y hy => Or.inr (N y hy)).mono (by decide) (by decide)⟩⟩
theorem main_1_1 : Claimed_1_1 := comes_1 fun _ _ _ _ _ _ h hF => ⟨h.1, hF⟩
theorem main_1_2 : Claimed_1_2 := comes_1 fun _ _ _ _ _ _ h hF => ⟨h.2.1, hF⟩
end Jvm.Pilot.@@N@@
namespace Jvm.Pilot.@@N@@
open Jvm Jvm.ClassFile Sem Op Lib Jvm.Free Jvm.Stand Jvm.Pilot.@@N@@.Jvm.D
/-! MADE BY PROGRAM (witnessworld.py) out of the Statement's table words and the real class files: 11 classes; the members and pool entries that the words name. The judged class is class 1, her method 1. -/
namespace start1
open Jvm.ClassFile
def u (s : String) : CpInfo := .utf8 (stringToUtf16 s)
/-- a pool by its gaps: so many unusable entries, then the entry; so many at the end -/
def gap : Nat → List CpInfo → List CpInfo
  | 0, r => r
  | n + 1, r => .unusable :: gap n r
def poolList (es : List (Nat × CpInfo)) (last : Nat) : List CpInfo := es.foldr (fun e r => gap e.1 (e.2 :: r)) (gap last [])
def pool (es : List (Nat × CpInfo)) (last : Nat) : Array CpInfo := ⟨poolList es last⟩
def fileOf (pool : Array CpInfo) (this : Nat) (attrs : Array Attribute := #[]) (ms : Array MethodInfo := #[]) (fl : Nat := 33) (sup : Nat := 0) (ifs : Array Nat := #[]) (fds : Array FieldInfo := #[]) : ClassFile where
  minorVersion := 0
  majorVersion := 65
  constantPool := pool
  accessFlags := fl
  thisClass := this
  superClass := sup
  interfaces := ifs
  fields := fds
  methods := ms
  attributes := attrs
def plain (name : String) (sup : Option ClassId) : Class where
  name := name
  kind := .ordinary
  loader := none
  accessFlags := 33
  super := sup
  interfaces := #[]
  cf := none
  fields := #[]
  methods := #[]
  instanceTypes := #[]
  staticTypes := #[]
  resolved := #[]
  callSites := []
  init := .initialized
  statics := none
  mirror := none

def pool0 : Array CpInfo := pool [(5, u "<init>"), (0, u "()V"), (1, .class_ 10), (1, u "java/lang/Object")] 113

def k0c0 : Code := { maxStack := 0, maxLocals := 1, code := object_method_1_code, exceptionTable := #[], attributes := #[] }
def k0m0 : Method := { name := "<init>", desc := "()V", sig := { parameters := [], returnType := none }, accessFlags := 1, code := some k0c0 }
/-- java/lang/Object -/
def k0 : Class := { plain "java/lang/Object" none with
  accessFlags := 33
  interfaces := #[]
  cf := some (fileOf pool0 8 #[] #[{ accessFlags := 1, nameIndex := 5, descriptorIndex := 6, attributes := #[] }] 33 0 #[] #[])
  fields := #[]
  methods := #[k0m0]
  instanceTypes := #[]
  staticTypes := #[]
  resolved := Array.replicate 124 none
  statics := none }

def pool1 : Array CpInfo := pool [(2, .class_ 4), (1, u "java/lang/Object"), (0, u "<init>"), (0, u "()V"), (0, .long 4611686018427387903), (1, .class_ 10), (0, u "com/example/orbyt/orbyt/IndexRange"), (0, .methodref 9 12), (0, .nameAndType 5 13), (0, u "(JJ)V"), (0, .methodref 9 15), (0, .nameAndType 16 17), (0, u "count"), (0, u "()J"), (0, .methodref 9 19), (0, .nameAndType 20 21), (0, u "isEmpty"), (0, u "()Z"), (0, .class_ 23), (0, u "com/example/orbyt/orbyt/IndexRangeCountPinLaw"), (2, u "law"), (0, u "(JJII)Z")] 3

def k1m0 : Method := { name := "<init>", desc := "()V", sig := { parameters := [], returnType := none }, accessFlags := 1, code := none }
def k1c1 : Code := { maxStack := 6, maxLocals := 17, code := code, exceptionTable := #[], attributes := #[] }
def k1m1 : Method := { name := "law", desc := "(JJII)Z", sig := { parameters := [.long, .long, .int, .int], returnType := some .boolean }, accessFlags := 9, code := some k1c1 }
/-- com/example/orbyt/orbyt/IndexRangeCountPinLaw -/
def k1 : Class := { plain "com/example/orbyt/orbyt/IndexRangeCountPinLaw" (some 0) with
  accessFlags := 49
  interfaces := #[]
  cf := some (fileOf pool1 22 #[] #[{ accessFlags := 1, nameIndex := 5, descriptorIndex := 6, attributes := #[] }, { accessFlags := 9, nameIndex := 26, descriptorIndex := 27, attributes := #[] }] 49 2 #[] #[])
  fields := #[]
  methods := #[k1m0, k1m1]
  instanceTypes := #[]
  staticTypes := #[]
  resolved := Array.replicate 31 none
  statics := none }

def pool2 : Array CpInfo := pool [(1, .methodref 2 3), (0, .class_ 4), (0, .nameAndType 5 6), (0, u "java/lang/Object"), (0, u "<init>"), (0, u "()V"), (0, .class_ 8), (0, u "java/lang/Record")] 13

def k2c0 : Code := { maxStack := 1, maxLocals := 1, code := jdk_30_method_1_code, exceptionTable := #[], attributes := #[] }
def k2m0 : Method := { name := "<init>", desc := "()V", sig := { parameters := [], returnType := none }, accessFlags := 4, code := some k2c0 }
/-- java/lang/Record -/
def k2 : Class := { plain "java/lang/Record" (some 0) with
  accessFlags := 1057
  interfaces := #[]
  cf := some (fileOf pool2 7 #[] #[{ accessFlags := 4, nameIndex := 5, descriptorIndex := 6, attributes := #[] }] 1057 2 #[] #[])
  fields := #[]
  methods := #[k2m0]
  instanceTypes := #[]
  staticTypes := #[]
  resolved := Array.replicate 22 none
  statics := none }

def pool3 : Array CpInfo := pool [(1, .methodref 2 3), (0, .class_ 4), (0, .nameAndType 5 6), (0, u "java/lang/Record"), (0, u "<init>"), (0, u "()V"), (0, .fieldref 8 9), (0, .class_ 10), (0, .nameAndType 11 12), (0, u "com/example/orbyt/orbyt/IndexRange"), (0, u "first"), (0, u "J"), (0, .fieldref 8 14), (0, .nameAndType 15 12), (0, u "last"), (4, u "(JJ)V"), (0, .methodref 22 23), (0, .class_ 24), (0, .nameAndType 25 26), (0, u "java/lang/Math"), (0, u "max"), (0, u "(JJ)J"), (21, u "isEmpty"), (0, u "()Z"), (0, u "count"), (0, u "()J")] 24

def k3c0 : Code := { maxStack := 3, maxLocals := 5, code := prog_4_method_1_code, exceptionTable := #[], attributes := #[] }
def k3m0 : Method := { name := "<init>", desc := "(JJ)V", sig := { parameters := [.long, .long], returnType := none }, accessFlags := 0, code := some k3c0 }
def k3c1 : Code := { maxStack := 4, maxLocals := 1, code := prog_4_method_3_code, exceptionTable := #[], attributes := #[] }
def k3m1 : Method := { name := "isEmpty", desc := "()Z", sig := { parameters := [], returnType := some .boolean }, accessFlags := 0, code := some k3c1 }
def k3c2 : Code := { maxStack := 6, maxLocals := 1, code := prog_4_method_4_code, exceptionTable := #[], attributes := #[] }
def k3m2 : Method := { name := "count", desc := "()J", sig := { parameters := [], returnType := some .long }, accessFlags := 0, code := some k3c2 }
/-- com/example/orbyt/orbyt/IndexRange -/
def k3 : Class := { plain "com/example/orbyt/orbyt/IndexRange" (some 2) with
  accessFlags := 48
  interfaces := #[]
  cf := some (fileOf pool3 8 #[] #[{ accessFlags := 0, nameIndex := 5, descriptorIndex := 20, attributes := #[] }, { accessFlags := 0, nameIndex := 48, descriptorIndex := 49, attributes := #[] }, { accessFlags := 0, nameIndex := 50, descriptorIndex := 51, attributes := #[] }] 48 2 #[] #[{ accessFlags := 18, nameIndex := 11, descriptorIndex := 12, attributes := #[] }, { accessFlags := 18, nameIndex := 15, descriptorIndex := 12, attributes := #[] }])
  fields := #[{ name := "first", type := .long, accessFlags := 18, slot := 0, constantValue := 0 }, { name := "last", type := .long, accessFlags := 18, slot := 1, constantValue := 0 }]
  methods := #[k3m0, k3m1, k3m2]
  instanceTypes := #[.long, .long]
  staticTypes := #[]
  resolved := Array.replicate 76 none
  statics := none }

def pool4 : Array CpInfo := pool [(1, .class_ 2), (0, u "java/lang/Math"), (1, .class_ 6), (1, u "java/lang/Object"), (0, u "<init>"), (0, u "()V"), (89, .class_ 100), (1, u "java/lang/Math$RandomNumberGeneratorHolder"), (20, u "(JJ)J"), (50, u "negativeZeroFloatBits"), (0, u "J"), (2, u "negativeZeroDoubleBits"), (21, u "max"), (46, u "$assertionsDisabled"), (0, u "Z"), (91, u "twoToTheDoubleScaleDown"), (0, u "D"), (4, u "twoToTheDoubleScaleUp"), (9, u "E"), (3, u "PI"), (2, u "TAU"), (2, u "DEGREES_TO_RADIANS"), (0, u "RADIANS_TO_DEGREES")] 94

def k4m0 : Method := { name := "<init>", desc := "()V", sig := { parameters := [], returnType := none }, accessFlags := 2, code := none }
def k4c1 : Code := { maxStack := 4, maxLocals := 4, code := jdk_29_method_66_code, exceptionTable := #[], attributes := #[] }
def k4m1 : Method := { name := "max", desc := "(JJ)J", sig := { parameters := [.long, .long], returnType := some .long }, accessFlags := 9, code := some k4c1 }
/-- java/lang/Math -/
def k4 : Class := { plain "java/lang/Math" (some 0) with
  accessFlags := 49
  interfaces := #[]
  cf := some (fileOf pool4 1 #[.nestMembers #[98]] #[{ accessFlags := 2, nameIndex := 7, descriptorIndex := 8, attributes := #[] }, { accessFlags := 9, nameIndex := 198, descriptorIndex := 121, attributes := #[] }] 49 4 #[] #[{ accessFlags := 25, nameIndex := 354, descriptorIndex := 339, attributes := #[] }, { accessFlags := 25, nameIndex := 358, descriptorIndex := 339, attributes := #[] }, { accessFlags := 25, nameIndex := 361, descriptorIndex := 339, attributes := #[] }, { accessFlags := 26, nameIndex := 364, descriptorIndex := 339, attributes := #[] }, { accessFlags := 26, nameIndex := 365, descriptorIndex := 339, attributes := #[] }, { accessFlags := 26, nameIndex := 172, descriptorIndex := 173, attributes := #[] }, { accessFlags := 26, nameIndex := 176, descriptorIndex := 173, attributes := #[] }, { accessFlags := 8, nameIndex := 344, descriptorIndex := 339, attributes := #[] }, { accessFlags := 8, nameIndex := 338, descriptorIndex := 339, attributes := #[] }, { accessFlags := 4120, nameIndex := 245, descriptorIndex := 246, attributes := #[] }])
  fields := #[{ name := "E", type := .double, accessFlags := 25, slot := 0, constantValue := 0 }, { name := "PI", type := .double, accessFlags := 25, slot := 1, constantValue := 0 }, { name := "TAU", type := .double, accessFlags := 25, slot := 2, constantValue := 0 }, { name := "DEGREES_TO_RADIANS", type := .double, accessFlags := 26, slot := 3, constantValue := 0 }, { name := "RADIANS_TO_DEGREES", type := .double, accessFlags := 26, slot := 4, constantValue := 0 }, { name := "negativeZeroFloatBits", type := .long, accessFlags := 26, slot := 5, constantValue := 0 }, { name := "negativeZeroDoubleBits", type := .long, accessFlags := 26, slot := 6, constantValue := 0 }, { name := "twoToTheDoubleScaleUp", type := .double, accessFlags := 8, slot := 7, constantValue := 0 }, { name := "twoToTheDoubleScaleDown", type := .double, accessFlags := 8, slot := 8, constantValue := 0 }, { name := "$assertionsDisabled", type := .boolean, accessFlags := 4120, slot := 9, constantValue := 0 }]
  methods := #[k4m0, k4m1]
  instanceTypes := #[]
  staticTypes := #[.double, .double, .double, .double, .double, .long, .long, .double, .double, .boolean]
  resolved := Array.replicate 460 none
  statics := none }

def pool5 : Array CpInfo := pool [(1, u "java/lang/Cloneable"), (0, .class_ 1), (0, u "java/lang/Object"), (0, .class_ 3)] 3

/-- java/lang/Cloneable -/
def k5 : Class := { plain "java/lang/Cloneable" (some 0) with
  accessFlags := 1537
  interfaces := #[]
  cf := some (fileOf pool5 2 #[] #[] 1537 4 #[] #[])
  fields := #[]
  methods := #[]
  instanceTypes := #[]
  staticTypes := #[]
  resolved := Array.replicate 8 none
  statics := none }

def pool6 : Array CpInfo := pool [(1, u "java/io/Serializable"), (0, .class_ 1), (0, u "java/lang/Object"), (0, .class_ 3)] 3

/-- java/io/Serializable -/
def k6 : Class := { plain "java/io/Serializable" (some 0) with
  accessFlags := 1537
  interfaces := #[]
  cf := some (fileOf pool6 2 #[] #[] 1537 4 #[] #[])
  fields := #[]
  methods := #[]
  instanceTypes := #[]
  staticTypes := #[]
  resolved := Array.replicate 8 none
  statics := none }

/-- the primitive byte -/
def k7 : Class := { plain "byte" none with kind := .primitive 'B', accessFlags := 0x411 }
/-- [B -/
def k8 : Class := { plain "[B" (some 0) with kind := .array 7 .byte, interfaces := #[5, 6], accessFlags := 1041 }

/-- the primitive int -/
def k9 : Class := { plain "int" none with kind := .primitive 'I', accessFlags := 0x411 }
/-- [I -/
def k10 : Class := { plain "[I" (some 0) with kind := .array 9 .int, interfaces := #[5, 6], accessFlags := 1041 }

def heap : Heap := #[]
def classes : Array Class := #[k0, k1, k2, k3, k4, k5, k6, k7, k8, k9, k10]
def interned : List (Array UInt16 × Addr) := []
def slotsUsed : Nat := 0
def theMethod : MethodId := ⟨1, 1⟩
def args0 : Array Value := #[.long 5, .long 5, .int 5, .int 5]
def aboutOver (below : List Frame) : State where
  vm := { classes := classes, interned := interned.toArray }
  heap := heap
  slotsUsed := slotsUsed
  threads := #[{ frames := .invoking theMethod args0 :: below }]
def below0 : List Frame := [.native { method := ⟨0, 0⟩, args := #[] }]
def about1 : State := aboutOver below0
def p0 : Program := .bare "" "" ""
def e0 : Env := launch0.env 0 0 0
theorem w_frames : about1.frames = Frame.invoking theMethod args0 :: below0 := rfl
set_option maxRecDepth 65536 in
theorem w_args : argsFit about1.vm theMethod args0 = true := by decide +kernel
set_option maxRecDepth 65536 in
theorem w_heap : heapFits about1 = true := by decide +kernel
set_option maxRecDepth 65536 in
theorem w_runnable : about1.curStatus? = some .runnable := by decide +kernel
set_option maxRecDepth 65536 in
theorem w_alone : about1.alone = true := by decide +kernel
set_option maxRecDepth 65536 in
theorem w_named : about1.methodNamed? x = some theMethod := by decide +kernel
set_option maxRecDepth 65536 in
theorem w_hears : about1.hears theMethod below0 = true := by decide +kernel
set_option maxRecDepth 65536 in
theorem w_ripe : about1.ripe theMethod args0 below0 = true := by decide +kernel
theorem w_running : about1.status = .running := rfl
set_option maxRecDepth 65536 in
theorem w_room : about1.hasRoom e0.platform room_1 = true :=
  launch0.hasRoom_least _ room_1 (by decide +kernel) (by decide +kernel) (by decide +kernel) (by decide +kernel) (by decide +kernel) (by decide +kernel)
theorem allAtoms_all (ts : List Jvm.Cond) (a : Array Jvm.Value) (st : Jvm.State) : (allAtoms ts).before a st = ts.all (fun c => c.before a st) := by
  induction ts with
  | nil => rfl
  | cons c t ih =>
    show (Jvm.Cond.and c (allAtoms t)).before a st = _
    rw [Jvm.Cond.before_and, ih, List.all_cons]
def words1 : List Jvm.Cond := Jvm.Cond.code x code maxLocals ret :: tables_1
/-- a 'code' word, met by the world's own term for the bytes: nothing is compared byte by byte -/
theorem code_word {y : MethodName} {bytes : ByteArray} {mx : Nat} {rt : Option FieldType} {a : Array Value} {s : State} {m : MethodId} {meth : Method} {c : Code} (h1 : s.methodNamed? y = some m) (h2 : s.vm.method? m = some meth) (h3 : meth.code = some c) (h4 : c.code = bytes)
    (h5 : (c.maxLocals == mx && c.exceptionTable.isEmpty && decide (c.maxStack ≤ mostOperands) && decide (meth.sig.returnType = rt) && !meth.locks && decide (parseMethodDescriptor y.desc = some meth.sig)) = true) : (Jvm.Cond.code y bytes mx rt).before a s = true := by
  simp only [Bool.and_eq_true, beq_iff_eq, Bool.not_eq_true', decide_eq_true_eq] at h5
  obtain ⟨⟨⟨⟨⟨g1, g2⟩, g3⟩, g4⟩, g5⟩, g6⟩ := h5
  simp [Cond.before, Cond.holds, Cond.value, h1, h2, h3, h4, g1, g2, g3, g4, g5, g6]
def isCode : Jvm.Cond → Bool
  | .code _ _ _ _ => true
  | _ => false
theorem all_split {L : List Jvm.Cond} {P : Jvm.Cond → Bool} (h1 : L.all (fun c => isCode c || P c) = true) (h2 : ∀ c ∈ L.filter isCode, P c = true) : L.all P = true := by
  refine List.all_eq_true.mpr fun c hc => ?_
  have h := List.all_eq_true.mp h1 c hc
  rcases Bool.eq_false_or_eq_true (isCode c) with hi | hi
  · exact h2 c (List.mem_filter.mpr ⟨hc, hi⟩)
  · simpa [hi] using h
set_option maxRecDepth 65536 in
theorem w_c0 : (Jvm.Cond.code x code maxLocals ret).before args0 about1 = true := code_word (m := ⟨1, 1⟩) (meth := k1m1) (c := k1c1) (by decide +kernel) rfl rfl rfl (by decide +kernel)
set_option maxRecDepth 65536 in
theorem w_c1 : (Jvm.Cond.code ({ cls := "com/example/orbyt/orbyt/IndexRange", name := "<init>", desc := "(JJ)V" } : Jvm.MethodName) prog_4_method_1_code (5 : Nat) (Option.none : Option Jvm.ClassFile.FieldType)).before args0 about1 = true := code_word (m := ⟨3, 0⟩) (meth := k3m0) (c := k3c0) (by decide +kernel) rfl rfl rfl (by decide +kernel)
set_option maxRecDepth 65536 in
theorem w_c2 : (Jvm.Cond.code ({ cls := "java/lang/Record", name := "<init>", desc := "()V" } : Jvm.MethodName) jdk_30_method_1_code (1 : Nat) (Option.none : Option Jvm.ClassFile.FieldType)).before args0 about1 = true := code_word (m := ⟨2, 0⟩) (meth := k2m0) (c := k2c0) (by decide +kernel) rfl rfl rfl (by decide +kernel)
set_option maxRecDepth 65536 in
theorem w_c3 : (Jvm.Cond.code ({ cls := "java/lang/Object", name := "<init>", desc := "()V" } : Jvm.MethodName) object_method_1_code (1 : Nat) (Option.none : Option Jvm.ClassFile.FieldType)).before args0 about1 = true := code_word (m := ⟨0, 0⟩) (meth := k0m0) (c := k0c0) (by decide +kernel) rfl rfl rfl (by decide +kernel)
set_option maxRecDepth 65536 in
theorem w_c4 : (Jvm.Cond.code ({ cls := "com/example/orbyt/orbyt/IndexRange", name := "count", desc := "()J" } : Jvm.MethodName) prog_4_method_4_code (1 : Nat) (Option.some Jvm.ClassFile.FieldType.long)).before args0 about1 = true := code_word (m := ⟨3, 2⟩) (meth := k3m2) (c := k3c2) (by decide +kernel) rfl rfl rfl (by decide +kernel)
set_option maxRecDepth 65536 in
theorem w_c5 : (Jvm.Cond.code ({ cls := "java/lang/Math", name := "max", desc := "(JJ)J" } : Jvm.MethodName) jdk_29_method_66_code (4 : Nat) (Option.some Jvm.ClassFile.FieldType.long)).before args0 about1 = true := code_word (m := ⟨4, 1⟩) (meth := k4m1) (c := k4c1) (by decide +kernel) rfl rfl rfl (by decide +kernel)
set_option maxRecDepth 65536 in
theorem w_c6 : (Jvm.Cond.code ({ cls := "com/example/orbyt/orbyt/IndexRange", name := "isEmpty", desc := "()Z" } : Jvm.MethodName) prog_4_method_3_code (1 : Nat) (Option.some Jvm.ClassFile.FieldType.boolean)).before args0 about1 = true := code_word (m := ⟨3, 1⟩) (meth := k3m1) (c := k3c1) (by decide +kernel) rfl rfl rfl (by decide +kernel)
def codes1 : List Jvm.Cond := [Jvm.Cond.code x code maxLocals ret, Jvm.Cond.code ({ cls := "com/example/orbyt/orbyt/IndexRange", name := "<init>", desc := "(JJ)V" } : Jvm.MethodName) prog_4_method_1_code (5 : Nat) (Option.none : Option Jvm.ClassFile.FieldType), Jvm.Cond.code ({ cls := "java/lang/Record", name := "<init>", desc := "()V" } : Jvm.MethodName) jdk_30_method_1_code (1 : Nat) (Option.none : Option Jvm.ClassFile.FieldType), Jvm.Cond.code ({ cls := "java/lang/Object", name := "<init>", desc := "()V" } : Jvm.MethodName) object_method_1_code (1 : Nat) (Option.none : Option Jvm.ClassFile.FieldType), Jvm.Cond.code ({ cls := "com/example/orbyt/orbyt/IndexRange", name := "count", desc := "()J" } : Jvm.MethodName) prog_4_method_4_code (1 : Nat) (Option.some Jvm.ClassFile.FieldType.long), Jvm.Cond.code ({ cls := "java/lang/Math", name := "max", desc := "(JJ)J" } : Jvm.MethodName) jdk_29_method_66_code (4 : Nat) (Option.some Jvm.ClassFile.FieldType.long), Jvm.Cond.code ({ cls := "com/example/orbyt/orbyt/IndexRange", name := "isEmpty", desc := "()Z" } : Jvm.MethodName) prog_4_method_3_code (1 : Nat) (Option.some Jvm.ClassFile.FieldType.boolean)]
set_option maxRecDepth 65536 in
theorem codes_eq : words1.filter isCode = codes1 := rfl
theorem w_codes : ∀ c ∈ words1.filter isCode, c.before args0 about1 = true := by
  rw [codes_eq]
  intro c hc
  simp only [codes1, List.mem_cons, List.not_mem_nil, or_false] at hc
  rcases hc with rfl | rfl | rfl | rfl | rfl | rfl | rfl
  · exact w_c0
  · exact w_c1
  · exact w_c2
  · exact w_c3
  · exact w_c4
  · exact w_c5
  · exact w_c6
set_option maxRecDepth 65536 in
theorem w_t1 : (words1.take 24).all (fun c => isCode c || c.before args0 about1) = true := by decide +kernel
set_option maxRecDepth 65536 in
theorem w_t2 : (words1.drop 24).all (fun c => isCode c || c.before args0 about1) = true := by decide +kernel
theorem w_tables : (allAtoms (Jvm.Cond.code x code maxLocals ret :: tables_1)).before args0 about1 = true := by
  rw [allAtoms_all]
  show words1.all (fun c => c.before args0 about1) = true
  refine all_split ?_ w_codes
  rw [← List.take_append_drop 24 words1, List.all_append, w_t1, w_t2]
  rfl
set_option maxRecDepth 65536 in
theorem w_case : (Jvm.Cond.and given_1 narrow_1).before args0 about1 = true := by decide +kernel
theorem w_applies : (headSpec (Jvm.Cond.code x code maxLocals ret :: tables_1) room_1).applies x e0.platform about1 = true :=
  (Spec.applies_iff w_frames).mpr ⟨w_running, w_runnable, w_alone, w_named, w_hears, w_ripe, w_room, w_tables⟩
theorem atStart : AtStart classFile x code maxLocals ret World_1 tables_1 room_1 Calls_1 rest_1 Pre_1 launch0 p0 e0 about1 theMethod args0 below0 :=
  ⟨lists_1, trivial, launch0.admits_env _ _ _, launch0.least_env, fairChoices_fair.cas, fairChoices_fair.clock, w_frames, w_args, w_heap, w_applies, trivial, trivial, w_case⟩
end start1
theorem witness_1 : WitnessClaimed_1 := ⟨start1.p0, start1.e0, start1.about1, start1.theMethod, start1.args0, start1.below0, start1.atStart⟩
end Jvm.Pilot.@@N@@
