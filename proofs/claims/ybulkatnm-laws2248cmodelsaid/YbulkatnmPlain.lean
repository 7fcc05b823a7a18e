/-
  OWN TEXT, NO PROGRAM IN SIGHT: what readBeneath makes of a list of writes, newest first.
-/
namespace Go.Proofs.Ybulkatnm.Pl

/-- A write as the law is handed it. -/
structure Ent where
  ts : Int
  st : Int
  val : Int

/-- Its writer's state. -/
def Ent.s (e : Ent) : Int := e.st % 3

/-- Beneath the writes with a larger timestamp: the committed one that is met there, or what is left. -/
def scan (ts : Int) : List Ent → Option Ent × List Ent
  | [] => (none, [])
  | e :: es => if ts < e.ts then (if e.s = 1 then (some e, e :: es) else scan ts es) else (none, e :: es)

/-- The aborted ones passed over. -/
def skip : List Ent → List Ent
  | [] => []
  | e :: es => if e.s = 2 then skip es else e :: es

theorem scan_up {ts : Int} {e : Ent} {es : List Ent} (h : ts < e.ts) (hs : ¬ e.s = 1) : scan ts (e :: es) = scan ts es := by simp [scan, h, hs]
theorem scan_hit {ts : Int} {e : Ent} {es : List Ent} (h : ts < e.ts) (hs : e.s = 1) : scan ts (e :: es) = (some e, e :: es) := by simp [scan, h, hs]
theorem scan_low {ts : Int} {e : Ent} {es : List Ent} (h : ¬ ts < e.ts) : scan ts (e :: es) = (none, e :: es) := by simp [scan, h]
theorem skip_up {e : Ent} {es : List Ent} (h : e.s = 2) : skip (e :: es) = skip es := by simp [skip, h]
theorem skip_low {e : Ent} {es : List Ent} (h : ¬ e.s = 2) : skip (e :: es) = e :: es := by simp [skip, h]

/-- The larger. -/
def top (r t : Int) : Int := if r < t then t else r

/-- What is made of the read: the outcome, on whom it waits (timestamp, state), the value, whence it is, whether it ran. -/
structure Res where
  out : Int
  onT : Int
  onS : Int
  val : Int
  src : Int
  ran : Bool

def res (ts bs base : Int) (es : List Ent) : Res :=
  match scan ts es with
  | (some e, _) => ⟨0, 0, 0, 0, e.ts, false⟩
  | (none, rest) => match skip rest with
    | e :: _ => if e.s = 1 then ⟨1, 0, 0, e.val, e.ts, true⟩ else ⟨3, e.ts, e.s, 0, 0, false⟩
    | [] => if ts < bs then ⟨0, 0, 0, 0, bs, false⟩ else ⟨1, 0, 0, base, bs, true⟩

theorem res_hit {ts bs base : Int} {es r : List Ent} {e : Ent} (h : scan ts es = (some e, r)) : res ts bs base es = ⟨0, 0, 0, 0, e.ts, false⟩ := by simp [res, h]
theorem res_ran {ts bs base : Int} {es r r' : List Ent} {e : Ent} (h : scan ts es = (none, r)) (h2 : skip r = e :: r') (hs : e.s = 1) : res ts bs base es = ⟨1, 0, 0, e.val, e.ts, true⟩ := by simp [res, h, h2, hs]
theorem res_held {ts bs base : Int} {es r r' : List Ent} {e : Ent} (h : scan ts es = (none, r)) (h2 : skip r = e :: r') (hs : ¬ e.s = 1) : res ts bs base es = ⟨3, e.ts, e.s, 0, 0, false⟩ := by simp [res, h, h2, hs]
theorem res_young {ts bs base : Int} {es r : List Ent} (h : scan ts es = (none, r)) (h2 : skip r = []) (hb : ts < bs) : res ts bs base es = ⟨0, 0, 0, 0, bs, false⟩ := by simp [res, h, h2, hb]
theorem res_base {ts bs base : Int} {es r : List Ent} (h : scan ts es = (none, r)) (h2 : skip r = []) (hb : ¬ ts < bs) : res ts bs base es = ⟨1, 0, 0, base, bs, true⟩ := by simp [res, h, h2, hb]

/-- The read stamp behind it. -/
def readOf (ts bs base rd sr : Int) (es : List Ent) : Int := if (res ts bs base es).ran then top sr ts else rd

end Go.Proofs.Ybulkatnm.Pl
