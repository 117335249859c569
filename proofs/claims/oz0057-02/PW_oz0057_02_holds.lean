import PyProof.Rows.All
import Wide.All
import OpenK.AllK
import Wide.FinOn
import Lean
import PySem.Challenge.RW_oz0057_02
set_option Elab.async false
section HK2
open PySem PySem.W PySem.Calls PyProof.Rows
set_option Elab.async false
set_option linter.unusedVariables false
namespace Mine
def fnAt (l : List Stmt) (i : Nat) : Option (Arguments × List Stmt × Scope) := match l[i]? with | some (.FunctionDef _ a b _ _ _ s _ _ _) => some (a, b, s) | _ => none
def clAt (l : List Stmt) (i : Nat) : List Stmt := match l[i]? with | some (.ClassDef _ _ _ b _ _ _ _ _ _ _) => b | _ => []
set_option maxRecDepth 100000 in
set_option maxHeartbeats 0 in
noncomputable def K2 : Params → Frag := fun P =>
  letI a__wall : Arguments := _
  letI b__wall : List Stmt := _
  letI s__wall : Scope := _
  haveI : fnAt PySem.Challenge.pw_oz0057_02.main.body 1 = some (a__wall, b__wall, s__wall) := rfl
  letI a_NormalDist___init__ : Arguments := _
  letI b_NormalDist___init__ : List Stmt := _
  letI s_NormalDist___init__ : Scope := _
  haveI : fnAt (clAt PySem.Challenge.pw_oz0057_02.main.body 4) 1 = some (a_NormalDist___init__, b_NormalDist___init__, s_NormalDist___init__) := rfl
  letI a_NormalDist_from_samples : Arguments := _
  letI b_NormalDist_from_samples : List Stmt := _
  letI s_NormalDist_from_samples : Scope := _
  haveI : fnAt (clAt PySem.Challenge.pw_oz0057_02.main.body 4) 2 = some (a_NormalDist_from_samples, b_NormalDist_from_samples, s_NormalDist_from_samples) := rfl
  letI a_NormalDist_samples : Arguments := _
  letI b_NormalDist_samples : List Stmt := _
  letI s_NormalDist_samples : Scope := _
  haveI : fnAt (clAt PySem.Challenge.pw_oz0057_02.main.body 4) 3 = some (a_NormalDist_samples, b_NormalDist_samples, s_NormalDist_samples) := rfl
  letI a_NormalDist_pdf : Arguments := _
  letI b_NormalDist_pdf : List Stmt := _
  letI s_NormalDist_pdf : Scope := _
  haveI : fnAt (clAt PySem.Challenge.pw_oz0057_02.main.body 4) 4 = some (a_NormalDist_pdf, b_NormalDist_pdf, s_NormalDist_pdf) := rfl
  letI a_NormalDist_cdf : Arguments := _
  letI b_NormalDist_cdf : List Stmt := _
  letI s_NormalDist_cdf : Scope := _
  haveI : fnAt (clAt PySem.Challenge.pw_oz0057_02.main.body 4) 5 = some (a_NormalDist_cdf, b_NormalDist_cdf, s_NormalDist_cdf) := rfl
  letI a_NormalDist_inv_cdf : Arguments := _
  letI b_NormalDist_inv_cdf : List Stmt := _
  letI s_NormalDist_inv_cdf : Scope := _
  haveI : fnAt (clAt PySem.Challenge.pw_oz0057_02.main.body 4) 6 = some (a_NormalDist_inv_cdf, b_NormalDist_inv_cdf, s_NormalDist_inv_cdf) := rfl
  letI a_NormalDist_quantiles : Arguments := _
  letI b_NormalDist_quantiles : List Stmt := _
  letI s_NormalDist_quantiles : Scope := _
  haveI : fnAt (clAt PySem.Challenge.pw_oz0057_02.main.body 4) 7 = some (a_NormalDist_quantiles, b_NormalDist_quantiles, s_NormalDist_quantiles) := rfl
  letI a_NormalDist_overlap : Arguments := _
  letI b_NormalDist_overlap : List Stmt := _
  letI s_NormalDist_overlap : Scope := _
  haveI : fnAt (clAt PySem.Challenge.pw_oz0057_02.main.body 4) 8 = some (a_NormalDist_overlap, b_NormalDist_overlap, s_NormalDist_overlap) := rfl
  letI a_NormalDist_zscore : Arguments := _
  letI b_NormalDist_zscore : List Stmt := _
  letI s_NormalDist_zscore : Scope := _
  haveI : fnAt (clAt PySem.Challenge.pw_oz0057_02.main.body 4) 9 = some (a_NormalDist_zscore, b_NormalDist_zscore, s_NormalDist_zscore) := rfl
  letI a_NormalDist_mean : Arguments := _
  letI b_NormalDist_mean : List Stmt := _
  letI s_NormalDist_mean : Scope := _
  haveI : fnAt (clAt PySem.Challenge.pw_oz0057_02.main.body 4) 10 = some (a_NormalDist_mean, b_NormalDist_mean, s_NormalDist_mean) := rfl
  letI a_NormalDist_median : Arguments := _
  letI b_NormalDist_median : List Stmt := _
  letI s_NormalDist_median : Scope := _
  haveI : fnAt (clAt PySem.Challenge.pw_oz0057_02.main.body 4) 11 = some (a_NormalDist_median, b_NormalDist_median, s_NormalDist_median) := rfl
  letI a_NormalDist_mode : Arguments := _
  letI b_NormalDist_mode : List Stmt := _
  letI s_NormalDist_mode : Scope := _
  haveI : fnAt (clAt PySem.Challenge.pw_oz0057_02.main.body 4) 12 = some (a_NormalDist_mode, b_NormalDist_mode, s_NormalDist_mode) := rfl
  letI a_NormalDist_stdev : Arguments := _
  letI b_NormalDist_stdev : List Stmt := _
  letI s_NormalDist_stdev : Scope := _
  haveI : fnAt (clAt PySem.Challenge.pw_oz0057_02.main.body 4) 13 = some (a_NormalDist_stdev, b_NormalDist_stdev, s_NormalDist_stdev) := rfl
  letI a_NormalDist_variance : Arguments := _
  letI b_NormalDist_variance : List Stmt := _
  letI s_NormalDist_variance : Scope := _
  haveI : fnAt (clAt PySem.Challenge.pw_oz0057_02.main.body 4) 14 = some (a_NormalDist_variance, b_NormalDist_variance, s_NormalDist_variance) := rfl
  letI a_NormalDist___add__ : Arguments := _
  letI b_NormalDist___add__ : List Stmt := _
  letI s_NormalDist___add__ : Scope := _
  haveI : fnAt (clAt PySem.Challenge.pw_oz0057_02.main.body 4) 15 = some (a_NormalDist___add__, b_NormalDist___add__, s_NormalDist___add__) := rfl
  letI a_NormalDist___sub__ : Arguments := _
  letI b_NormalDist___sub__ : List Stmt := _
  letI s_NormalDist___sub__ : Scope := _
  haveI : fnAt (clAt PySem.Challenge.pw_oz0057_02.main.body 4) 16 = some (a_NormalDist___sub__, b_NormalDist___sub__, s_NormalDist___sub__) := rfl
  letI a_NormalDist___mul__ : Arguments := _
  letI b_NormalDist___mul__ : List Stmt := _
  letI s_NormalDist___mul__ : Scope := _
  haveI : fnAt (clAt PySem.Challenge.pw_oz0057_02.main.body 4) 17 = some (a_NormalDist___mul__, b_NormalDist___mul__, s_NormalDist___mul__) := rfl
  letI a_NormalDist___truediv__ : Arguments := _
  letI b_NormalDist___truediv__ : List Stmt := _
  letI s_NormalDist___truediv__ : Scope := _
  haveI : fnAt (clAt PySem.Challenge.pw_oz0057_02.main.body 4) 18 = some (a_NormalDist___truediv__, b_NormalDist___truediv__, s_NormalDist___truediv__) := rfl
  letI a_NormalDist___pos__ : Arguments := _
  letI b_NormalDist___pos__ : List Stmt := _
  letI s_NormalDist___pos__ : Scope := _
  haveI : fnAt (clAt PySem.Challenge.pw_oz0057_02.main.body 4) 19 = some (a_NormalDist___pos__, b_NormalDist___pos__, s_NormalDist___pos__) := rfl
  letI a_NormalDist___neg__ : Arguments := _
  letI b_NormalDist___neg__ : List Stmt := _
  letI s_NormalDist___neg__ : Scope := _
  haveI : fnAt (clAt PySem.Challenge.pw_oz0057_02.main.body 4) 20 = some (a_NormalDist___neg__, b_NormalDist___neg__, s_NormalDist___neg__) := rfl
  letI a_NormalDist___rsub__ : Arguments := _
  letI b_NormalDist___rsub__ : List Stmt := _
  letI s_NormalDist___rsub__ : Scope := _
  haveI : fnAt (clAt PySem.Challenge.pw_oz0057_02.main.body 4) 22 = some (a_NormalDist___rsub__, b_NormalDist___rsub__, s_NormalDist___rsub__) := rfl
  letI a_NormalDist___eq__ : Arguments := _
  letI b_NormalDist___eq__ : List Stmt := _
  letI s_NormalDist___eq__ : Scope := _
  haveI : fnAt (clAt PySem.Challenge.pw_oz0057_02.main.body 4) 24 = some (a_NormalDist___eq__, b_NormalDist___eq__, s_NormalDist___eq__) := rfl
  letI a_NormalDist___hash__ : Arguments := _
  letI b_NormalDist___hash__ : List Stmt := _
  letI s_NormalDist___hash__ : Scope := _
  haveI : fnAt (clAt PySem.Challenge.pw_oz0057_02.main.body 4) 25 = some (a_NormalDist___hash__, b_NormalDist___hash__, s_NormalDist___hash__) := rfl
  letI a_NormalDist___repr__ : Arguments := _
  letI b_NormalDist___repr__ : List Stmt := _
  letI s_NormalDist___repr__ : Scope := _
  haveI : fnAt (clAt PySem.Challenge.pw_oz0057_02.main.body 4) 26 = some (a_NormalDist___repr__, b_NormalDist___repr__, s_NormalDist___repr__) := rfl
  letI a_NormalDist___getstate__ : Arguments := _
  letI b_NormalDist___getstate__ : List Stmt := _
  letI s_NormalDist___getstate__ : Scope := _
  haveI : fnAt (clAt PySem.Challenge.pw_oz0057_02.main.body 4) 27 = some (a_NormalDist___getstate__, b_NormalDist___getstate__, s_NormalDist___getstate__) := rfl
  letI a_NormalDist___setstate__ : Arguments := _
  letI b_NormalDist___setstate__ : List Stmt := _
  letI s_NormalDist___setstate__ : Scope := _
  haveI : fnAt (clAt PySem.Challenge.pw_oz0057_02.main.body 4) 28 = some (a_NormalDist___setstate__, b_NormalDist___setstate__, s_NormalDist___setstate__) := rfl
  letI a__law_near : Arguments := _
  letI b__law_near : List Stmt := _
  letI s__law_near : Scope := _
  haveI : fnAt PySem.Challenge.pw_oz0057_02.main.body 6 = some (a__law_near, b__law_near, s__law_near) := rfl
  letI a__law_weighed : Arguments := _
  letI b__law_weighed : List Stmt := _
  letI s__law_weighed : Scope := _
  haveI : fnAt PySem.Challenge.pw_oz0057_02.main.body 7 = some (a__law_weighed, b__law_weighed, s__law_weighed) := rfl
  letI a__law_refused : Arguments := _
  letI b__law_refused : List Stmt := _
  letI s__law_refused : Scope := _
  haveI : fnAt PySem.Challenge.pw_oz0057_02.main.body 8 = some (a__law_refused, b__law_refused, s__law_refused) := rfl
  letI a_law : Arguments := _
  letI b_law : List Stmt := _
  letI s_law : Scope := _
  haveI : fnAt PySem.Challenge.pw_oz0057_02.main.body 9 = some (a_law, b_law, s_law) := rfl
((nat_lit 2),⟨.none,none,(.dict (List.toArray [⟨(PySem.PyData.keyHash P (Str.ofString "\x69mport.loaded.math")),(.str (Str.ofString "\x69mport.loaded.math") 186),(.bool true)⟩,⟨(PySem.PyData.keyHash P (Str.ofString "class._frozen_\x69mportlib_external._LoaderBasics")),(.str (Str.ofString "class._frozen_\x69mportlib_external._LoaderBasics") 191),(.ref 16)⟩,⟨(PySem.PyData.keyHash P (Str.ofString "watched.\x69mport")),(.str (Str.ofString "watched.\x69mport") 207),(.ref 20)⟩,⟨(PySem.PyData.keyHash P (Str.ofString "class._frozen_\x69mportlib_external.FileLoader")),(.str (Str.ofString "class._frozen_\x69mportlib_external.FileLoader") 208),(.ref 22)⟩,⟨(PySem.PyData.keyHash P (Str.ofString "class._frozen_\x69mportlib_external.ExtensionFileLoader")),(.str (Str.ofString "class._frozen_\x69mportlib_external.ExtensionFileLoader") 229),(.ref 27)⟩,⟨(PySem.PyData.keyHash P (Str.ofString "class._frozen_\x69mportlib.ModuleSpec")),(.str (Str.ofString "class._frozen_\x69mportlib.ModuleSpec") 257),(.ref 33)⟩,⟨(PySem.PyData.keyHash P (Str.ofString "sys.modules.booked-epoch")),(.str (Str.ofString "sys.modules.booked-epoch") 286),(.int (@OfNat.ofNat Int (nat_lit 3) (@instOfNat (nat_lit 3))) 0)⟩,⟨(PySem.PyData.keyHash P (Str.ofString "\x69mport.later-laid.math")),(.str (Str.ofString "\x69mport.later-laid.math") 362),(.bool true)⟩,⟨(PySem.PyData.keyHash P (Str.ofString "watched.library")),(.str (Str.ofString "watched.library") 364),(.ref 38)⟩,⟨(PySem.PyData.keyHash P (Str.ofString "watched.library-objects")),(.str (Str.ofString "watched.library-objects") 0),(.str (Str.ofString "\x0d") 0)⟩]) 10),(List.toArray [])⟩)::
((nat_lit 3),⟨(.type "dict"),none,(.dict (List.toArray [⟨(PySem.PyData.keyHash P (Str.ofString "__name__")),(.str (Str.ofString "__name__") 165),(.str (Str.ofString "law_oz0057_02") 659)⟩,⟨(PySem.PyData.keyHash P (Str.ofString "__doc__")),(.str (Str.ofString "__doc__") 166),.none⟩,⟨(PySem.PyData.keyHash P (Str.ofString "__package__")),(.str (Str.ofString "__package__") 167),.none⟩,⟨(PySem.PyData.keyHash P (Str.ofString "__loader__")),(.str (Str.ofString "__loader__") 168),(.builtin "__main__.__loader__#opaque")⟩,⟨(PySem.PyData.keyHash P (Str.ofString "__spec__")),(.str (Str.ofString "__spec__") 169),.none⟩,⟨(PySem.PyData.keyHash P (Str.ofString "__annotations__")),(.str (Str.ofString "__annotations__") 170),(.ref 6)⟩,⟨(PySem.PyData.keyHash P (Str.ofString "__builtins__")),(.str (Str.ofString "__builtins__") 171),(.ref 4)⟩,⟨(PySem.PyData.keyHash P (Str.ofString "__file__")),(.str (Str.ofString "__file__") 173),(.str (Str.ofString "/claim/cut.py") 172)⟩,⟨(PySem.PyData.keyHash P (Str.ofString "__cached__")),(.str (Str.ofString "__cached__") 174),.none⟩,⟨(PySem.PyData.keyHash P (Str.ofString "fabs")),(.str (Str.ofString "fabs") 370),(.builtin "math.fabs")⟩,⟨(PySem.PyData.keyHash P (Str.ofString "hypot")),(.str (Str.ofString "hypot") 373),(.builtin "math.hypot")⟩,⟨(PySem.PyData.keyHash P (Str.ofString "_wall")),(.str (Str.ofString "_wall") 386),(.ref 49)⟩,⟨(PySem.PyData.keyHash P (Str.ofString "StatisticsError")),(.str (Str.ofString "StatisticsError") 406),(.ref 59)⟩,⟨(PySem.PyData.keyHash P (Str.ofString "NormalDist")),(.str (Str.ofString "NormalDist") 658),(.ref 270)⟩,⟨(PySem.PyData.keyHash P (Str.ofString "_law_near")),(.str (Str.ofString "_law_near") 668),(.ref 281)⟩,⟨(PySem.PyData.keyHash P (Str.ofString "_law_weighed")),(.str (Str.ofString "_law_weighed") 678),(.ref 288)⟩,⟨(PySem.PyData.keyHash P (Str.ofString "_law_refused")),(.str (Str.ofString "_law_refused") 685),(.ref 295)⟩,⟨(PySem.PyData.keyHash P (Str.ofString "law")),(.str (Str.ofString "law") 691),(.ref 300)⟩]) 18),(List.toArray [])⟩)::
((nat_lit 43),⟨(.type "tuple"),none,(.seq (List.toArray []) 0),(List.toArray [])⟩)::
((nat_lit 45),⟨(.type "tuple"),none,(.seq (List.toArray [(.str (Str.ofString "k") 383)]) 0),(List.toArray [])⟩)::
((nat_lit 46),⟨(.type "tuple"),none,(.seq (List.toArray []) 0),(List.toArray [])⟩)::
((nat_lit 48),⟨(.type "code"),none,(.fields (List.toArray [(.str (Str.ofString "_wall") 380),(.str (Str.ofString "_wall") 381),(.str (Str.ofString "/claim/cut.py") 382),(.int (@OfNat.ofNat Int (nat_lit 2) (@instOfNat (nat_lit 2))) 0),(.int (@OfNat.ofNat Int (nat_lit 1) (@instOfNat (nat_lit 1))) 0),(.int (@OfNat.ofNat Int (nat_lit 0) (@instOfNat (nat_lit 0))) 0),(.int (@OfNat.ofNat Int (nat_lit 0) (@instOfNat (nat_lit 0))) 0),(.int (@OfNat.ofNat Int (nat_lit 3) (@instOfNat (nat_lit 3))) 0),(.ref 43),(.bool true),(.int (@OfNat.ofNat Int (nat_lit 374) (@instOfNat (nat_lit 374))) 0),(.ref 44),.none,(.ref 45),(.ref 46),(.ref 47),(.int (@OfNat.ofNat Int (nat_lit 384) (@instOfNat (nat_lit 384))) 0),(.int (@OfNat.ofNat Int (nat_lit 2) (@instOfNat (nat_lit 2))) 0),(.str (Str.ofString "/claim/cut.py") 385)])),(List.toArray [])⟩)::
((nat_lit 49),⟨(.type "function"),none,(.func ⟨(Str.ofString "_wall"),(Str.ofString "_wall"),a__wall,(.stmts b__wall),s__wall,3,[],.none,.none,.none,(.str (Str.ofString "__main__") 164),none,(.ref 48),.none,0⟩),(List.toArray [])⟩)::
((nat_lit 50),⟨(.type "tuple"),none,(.seq (List.toArray [(.type "ValueError")]) 0),(List.toArray [])⟩)::
((nat_lit 57),⟨(.type "tuple"),none,(.seq (List.toArray []) 0),(List.toArray [])⟩)::
((nat_lit 58),⟨(.type "dict"),none,(.dict (List.toArray [⟨(PySem.PyData.keyHash P (Str.ofString "__module__")),(.str (Str.ofString "__module__") 396),(.str (Str.ofString "cpy313.statistics") 387)⟩,⟨(PySem.PyData.keyHash P (Str.ofString "__firstlineno__")),(.str (Str.ofString "__firstlineno__") 400),(.int (@OfNat.ofNat Int (nat_lit 6) (@instOfNat (nat_lit 6))) 399)⟩,⟨(PySem.PyData.keyHash P (Str.ofString "__static_attributes__")),(.str (Str.ofString "__static_attributes__") 401),(.ref 57)⟩,⟨(PySem.PyData.keyHash P (Str.ofString "__weakref__")),(.str (Str.ofString "__weakref__") 403),(.ref 60)⟩,⟨(PySem.PyData.keyHash P (Str.ofString "__doc__")),(.str (Str.ofString "__doc__") 404),.none⟩]) 3),(List.toArray [])⟩)::
((nat_lit 59),⟨(.type "type"),none,(.cls ⟨(Str.ofString "StatisticsError"),[(.type "ValueError")],[(.ref 59),(.type "ValueError"),(.type "Exception"),(.type "BaseException"),(.type "object")],58,(Str.ofString "StatisticsError"),true,[],[],false,none,false⟩),(List.toArray [(some (.ref 50)),none,(some (.str (Str.ofString "StatisticsError") 389)),(some (.str (Str.ofString "StatisticsError") 397)),(some (.builtin "ValueError.__new__")),(some (.bool true))])⟩)::
((nat_lit 60),⟨(.type "getset_descriptor"),none,(.fields (List.toArray [(.str (Str.ofString "__weakref__") 402),(.ref 59),(.builtin "ExceptionGroup.__weakref__"),.none])),(List.toArray [])⟩)::
((nat_lit 70),⟨(.type "dict"),none,(.dict (List.toArray [⟨(PySem.PyData.keyHash P (Str.ofString "_mu")),(.str (Str.ofString "_mu") 419),(.str (Str.ofString "Arithmetic mean of a normal distribution") 420)⟩,⟨(PySem.PyData.keyHash P (Str.ofString "_sigma")),(.str (Str.ofString "_sigma") 421),(.str (Str.ofString "Standard deviation of a normal distribution") 422)⟩]) 2),(List.toArray [])⟩)::
((nat_lit 71),⟨(.type "tuple"),none,(.seq (List.toArray [(.float (@OfNat.ofNat UInt64 (nat_lit 0) (@UInt64.instOfNat (nat_lit 0))) 426),(.float (@OfNat.ofNat UInt64 (nat_lit 4607182418800017408) (@UInt64.instOfNat (nat_lit 4607182418800017408))) 427)]) 0),(List.toArray [])⟩)::
((nat_lit 72),⟨(.type "tuple"),none,(.seq (List.toArray []) 0),(List.toArray [])⟩)::
((nat_lit 74),⟨(.type "tuple"),none,(.seq (List.toArray [(.str (Str.ofString "self") 431),(.str (Str.ofString "mu") 432),(.str (Str.ofString "sigma") 433)]) 0),(List.toArray [])⟩)::
((nat_lit 75),⟨(.type "tuple"),none,(.seq (List.toArray []) 0),(List.toArray [])⟩)::
((nat_lit 77),⟨(.type "code"),none,(.fields (List.toArray [(.str (Str.ofString "__init__") 428),(.str (Str.ofString "NormalDist.__init__") 429),(.str (Str.ofString "/claim/cut.py") 430),(.int (@OfNat.ofNat Int (nat_lit 11) (@instOfNat (nat_lit 11))) 0),(.int (@OfNat.ofNat Int (nat_lit 3) (@instOfNat (nat_lit 3))) 0),(.int (@OfNat.ofNat Int (nat_lit 0) (@instOfNat (nat_lit 0))) 0),(.int (@OfNat.ofNat Int (nat_lit 0) (@instOfNat (nat_lit 0))) 0),(.int (@OfNat.ofNat Int (nat_lit 3) (@instOfNat (nat_lit 3))) 0),(.ref 72),(.bool true),(.int (@OfNat.ofNat Int (nat_lit 374) (@instOfNat (nat_lit 374))) 0),(.ref 73),.none,(.ref 74),(.ref 75),(.ref 76),(.int (@OfNat.ofNat Int (nat_lit 434) (@instOfNat (nat_lit 434))) 0),(.int (@OfNat.ofNat Int (nat_lit 11) (@instOfNat (nat_lit 11))) 0),(.str (Str.ofString "/claim/cut.py") 435)])),(List.toArray [])⟩)::
((nat_lit 78),⟨(.type "function"),none,(.func ⟨(Str.ofString "__init__"),(Str.ofString "NormalDist.__init__"),a_NormalDist___init__,(.stmts b_NormalDist___init__),s_NormalDist___init__,3,[],(.ref 71),.none,.none,(.str (Str.ofString "cpy313.statistics") 387),none,(.ref 77),.none,0⟩),(List.toArray [])⟩)::
((nat_lit 79),⟨(.type "tuple"),none,(.seq (List.toArray []) 0),(List.toArray [])⟩)::
((nat_lit 81),⟨(.type "tuple"),none,(.seq (List.toArray [(.str (Str.ofString "cls") 440),(.str (Str.ofString "data") 441)]) 0),(List.toArray [])⟩)::
((nat_lit 82),⟨(.type "tuple"),none,(.seq (List.toArray []) 0),(List.toArray [])⟩)::
((nat_lit 84),⟨(.type "code"),none,(.fields (List.toArray [(.str (Str.ofString "from_samples") 437),(.str (Str.ofString "NormalDist.from_samples") 438),(.str (Str.ofString "/claim/cut.py") 439),(.int (@OfNat.ofNat Int (nat_lit 17) (@instOfNat (nat_lit 17))) 0),(.int (@OfNat.ofNat Int (nat_lit 2) (@instOfNat (nat_lit 2))) 0),(.int (@OfNat.ofNat Int (nat_lit 0) (@instOfNat (nat_lit 0))) 0),(.int (@OfNat.ofNat Int (nat_lit 0) (@instOfNat (nat_lit 0))) 0),(.int (@OfNat.ofNat Int (nat_lit 3) (@instOfNat (nat_lit 3))) 0),(.ref 79),(.bool true),(.int (@OfNat.ofNat Int (nat_lit 374) (@instOfNat (nat_lit 374))) 0),(.ref 80),.none,(.ref 81),(.ref 82),(.ref 83),(.int (@OfNat.ofNat Int (nat_lit 442) (@instOfNat (nat_lit 442))) 0),(.int (@OfNat.ofNat Int (nat_lit 17) (@instOfNat (nat_lit 17))) 0),(.str (Str.ofString "/claim/cut.py") 443)])),(List.toArray [])⟩)::
((nat_lit 85),⟨(.type "function"),none,(.func ⟨(Str.ofString "from_samples"),(Str.ofString "NormalDist.from_samples"),a_NormalDist_from_samples,(.stmts b_NormalDist_from_samples),s_NormalDist_from_samples,3,[],.none,.none,.none,(.str (Str.ofString "cpy313.statistics") 387),(some 88),(.ref 84),.none,0⟩),(List.toArray [])⟩)::
((nat_lit 86),⟨(.type "dict"),none,(.dict (List.toArray [⟨(PySem.PyData.keyHash P (Str.ofString "__module__")),(.str (Str.ofString "__module__") 445),(.str (Str.ofString "cpy313.statistics") 387)⟩,⟨(PySem.PyData.keyHash P (Str.ofString "__name__")),(.str (Str.ofString "__name__") 448),(.str (Str.ofString "from_samples") 447)⟩,⟨(PySem.PyData.keyHash P (Str.ofString "__qualname__")),(.str (Str.ofString "__qualname__") 451),(.str (Str.ofString "NormalDist.from_samples") 450)⟩,⟨(PySem.PyData.keyHash P (Str.ofString "__doc__")),(.str (Str.ofString "__doc__") 453),.none⟩,⟨(PySem.PyData.keyHash P (Str.ofString "__annotations__")),(.str (Str.ofString "__annotations__") 455),(.ref 88)⟩]) 5),(List.toArray [])⟩)::
((nat_lit 87),⟨(.type "classmethod"),(some 86),(.fields (List.toArray [(.ref 85),(.bool false)])),(List.toArray [])⟩)::
((nat_lit 88),⟨(.type "dict"),none,(.dict (List.toArray []) 0),(List.toArray [])⟩)::
((nat_lit 89),⟨(.type "dict"),none,(.dict (List.toArray [⟨(PySem.PyData.keyHash P (Str.ofString "seed")),(.str (Str.ofString "seed") 457),.none⟩]) 1),(List.toArray [])⟩)::
((nat_lit 90),⟨(.type "tuple"),none,(.seq (List.toArray []) 0),(List.toArray [])⟩)::
((nat_lit 92),⟨(.type "tuple"),none,(.seq (List.toArray [(.str (Str.ofString "self") 461),(.str (Str.ofString "n") 462),(.str (Str.ofString "seed") 463)]) 0),(List.toArray [])⟩)::
((nat_lit 93),⟨(.type "tuple"),none,(.seq (List.toArray []) 0),(List.toArray [])⟩)::
((nat_lit 95),⟨(.type "code"),none,(.fields (List.toArray [(.str (Str.ofString "samples") 458),(.str (Str.ofString "NormalDist.samples") 459),(.str (Str.ofString "/claim/cut.py") 460),(.int (@OfNat.ofNat Int (nat_lit 21) (@instOfNat (nat_lit 21))) 0),(.int (@OfNat.ofNat Int (nat_lit 2) (@instOfNat (nat_lit 2))) 0),(.int (@OfNat.ofNat Int (nat_lit 0) (@instOfNat (nat_lit 0))) 0),(.int (@OfNat.ofNat Int (nat_lit 1) (@instOfNat (nat_lit 1))) 0),(.int (@OfNat.ofNat Int (nat_lit 3) (@instOfNat (nat_lit 3))) 0),(.ref 90),(.bool true),(.int (@OfNat.ofNat Int (nat_lit 374) (@instOfNat (nat_lit 374))) 0),(.ref 91),.none,(.ref 92),(.ref 93),(.ref 94),(.int (@OfNat.ofNat Int (nat_lit 464) (@instOfNat (nat_lit 464))) 0),(.int (@OfNat.ofNat Int (nat_lit 21) (@instOfNat (nat_lit 21))) 0),(.str (Str.ofString "/claim/cut.py") 465)])),(List.toArray [])⟩)::
((nat_lit 96),⟨(.type "function"),none,(.func ⟨(Str.ofString "samples"),(Str.ofString "NormalDist.samples"),a_NormalDist_samples,(.stmts b_NormalDist_samples),s_NormalDist_samples,3,[],.none,(.ref 89),.none,(.str (Str.ofString "cpy313.statistics") 387),none,(.ref 95),.none,0⟩),(List.toArray [])⟩)::
((nat_lit 97),⟨(.type "tuple"),none,(.seq (List.toArray []) 0),(List.toArray [])⟩)::
((nat_lit 99),⟨(.type "tuple"),none,(.seq (List.toArray [(.str (Str.ofString "self") 470),(.str (Str.ofString "x") 471)]) 0),(List.toArray [])⟩)::
((nat_lit 100),⟨(.type "tuple"),none,(.seq (List.toArray []) 0),(List.toArray [])⟩)::
((nat_lit 102),⟨(.type "code"),none,(.fields (List.toArray [(.str (Str.ofString "pdf") 467),(.str (Str.ofString "NormalDist.pdf") 468),(.str (Str.ofString "/claim/cut.py") 469),(.int (@OfNat.ofNat Int (nat_lit 24) (@instOfNat (nat_lit 24))) 0),(.int (@OfNat.ofNat Int (nat_lit 2) (@instOfNat (nat_lit 2))) 0),(.int (@OfNat.ofNat Int (nat_lit 0) (@instOfNat (nat_lit 0))) 0),(.int (@OfNat.ofNat Int (nat_lit 0) (@instOfNat (nat_lit 0))) 0),(.int (@OfNat.ofNat Int (nat_lit 3) (@instOfNat (nat_lit 3))) 0),(.ref 97),(.bool true),(.int (@OfNat.ofNat Int (nat_lit 374) (@instOfNat (nat_lit 374))) 0),(.ref 98),.none,(.ref 99),(.ref 100),(.ref 101),(.int (@OfNat.ofNat Int (nat_lit 472) (@instOfNat (nat_lit 472))) 0),(.int (@OfNat.ofNat Int (nat_lit 24) (@instOfNat (nat_lit 24))) 0),(.str (Str.ofString "/claim/cut.py") 473)])),(List.toArray [])⟩)::
((nat_lit 103),⟨(.type "function"),none,(.func ⟨(Str.ofString "pdf"),(Str.ofString "NormalDist.pdf"),a_NormalDist_pdf,(.stmts b_NormalDist_pdf),s_NormalDist_pdf,3,[],.none,.none,.none,(.str (Str.ofString "cpy313.statistics") 387),none,(.ref 102),.none,0⟩),(List.toArray [])⟩)::
((nat_lit 104),⟨(.type "tuple"),none,(.seq (List.toArray []) 0),(List.toArray [])⟩)::
((nat_lit 106),⟨(.type "tuple"),none,(.seq (List.toArray [(.str (Str.ofString "self") 478),(.str (Str.ofString "x") 479)]) 0),(List.toArray [])⟩)::
((nat_lit 107),⟨(.type "tuple"),none,(.seq (List.toArray []) 0),(List.toArray [])⟩)::
((nat_lit 109),⟨(.type "code"),none,(.fields (List.toArray [(.str (Str.ofString "cdf") 475),(.str (Str.ofString "NormalDist.cdf") 476),(.str (Str.ofString "/claim/cut.py") 477),(.int (@OfNat.ofNat Int (nat_lit 27) (@instOfNat (nat_lit 27))) 0),(.int (@OfNat.ofNat Int (nat_lit 2) (@instOfNat (nat_lit 2))) 0),(.int (@OfNat.ofNat Int (nat_lit 0) (@instOfNat (nat_lit 0))) 0),(.int (@OfNat.ofNat Int (nat_lit 0) (@instOfNat (nat_lit 0))) 0),(.int (@OfNat.ofNat Int (nat_lit 3) (@instOfNat (nat_lit 3))) 0),(.ref 104),(.bool true),(.int (@OfNat.ofNat Int (nat_lit 374) (@instOfNat (nat_lit 374))) 0),(.ref 105),.none,(.ref 106),(.ref 107),(.ref 108),(.int (@OfNat.ofNat Int (nat_lit 480) (@instOfNat (nat_lit 480))) 0),(.int (@OfNat.ofNat Int (nat_lit 27) (@instOfNat (nat_lit 27))) 0),(.str (Str.ofString "/claim/cut.py") 481)])),(List.toArray [])⟩)::
((nat_lit 110),⟨(.type "function"),none,(.func ⟨(Str.ofString "cdf"),(Str.ofString "NormalDist.cdf"),a_NormalDist_cdf,(.stmts b_NormalDist_cdf),s_NormalDist_cdf,3,[],.none,.none,.none,(.str (Str.ofString "cpy313.statistics") 387),none,(.ref 109),.none,0⟩),(List.toArray [])⟩)::
((nat_lit 111),⟨(.type "tuple"),none,(.seq (List.toArray []) 0),(List.toArray [])⟩)::
((nat_lit 113),⟨(.type "tuple"),none,(.seq (List.toArray [(.str (Str.ofString "self") 486),(.str (Str.ofString "p") 487)]) 0),(List.toArray [])⟩)::
((nat_lit 114),⟨(.type "tuple"),none,(.seq (List.toArray []) 0),(List.toArray [])⟩)::
((nat_lit 116),⟨(.type "code"),none,(.fields (List.toArray [(.str (Str.ofString "inv_cdf") 483),(.str (Str.ofString "NormalDist.inv_cdf") 484),(.str (Str.ofString "/claim/cut.py") 485),(.int (@OfNat.ofNat Int (nat_lit 30) (@instOfNat (nat_lit 30))) 0),(.int (@OfNat.ofNat Int (nat_lit 2) (@instOfNat (nat_lit 2))) 0),(.int (@OfNat.ofNat Int (nat_lit 0) (@instOfNat (nat_lit 0))) 0),(.int (@OfNat.ofNat Int (nat_lit 0) (@instOfNat (nat_lit 0))) 0),(.int (@OfNat.ofNat Int (nat_lit 3) (@instOfNat (nat_lit 3))) 0),(.ref 111),(.bool true),(.int (@OfNat.ofNat Int (nat_lit 374) (@instOfNat (nat_lit 374))) 0),(.ref 112),.none,(.ref 113),(.ref 114),(.ref 115),(.int (@OfNat.ofNat Int (nat_lit 488) (@instOfNat (nat_lit 488))) 0),(.int (@OfNat.ofNat Int (nat_lit 30) (@instOfNat (nat_lit 30))) 0),(.str (Str.ofString "/claim/cut.py") 489)])),(List.toArray [])⟩)::
((nat_lit 117),⟨(.type "function"),none,(.func ⟨(Str.ofString "inv_cdf"),(Str.ofString "NormalDist.inv_cdf"),a_NormalDist_inv_cdf,(.stmts b_NormalDist_inv_cdf),s_NormalDist_inv_cdf,3,[],.none,.none,.none,(.str (Str.ofString "cpy313.statistics") 387),none,(.ref 116),.none,0⟩),(List.toArray [])⟩)::
((nat_lit 118),⟨(.type "tuple"),none,(.seq (List.toArray [(.int (@OfNat.ofNat Int (nat_lit 4) (@instOfNat (nat_lit 4))) 491)]) 0),(List.toArray [])⟩)::
((nat_lit 119),⟨(.type "tuple"),none,(.seq (List.toArray []) 0),(List.toArray [])⟩)::
((nat_lit 121),⟨(.type "tuple"),none,(.seq (List.toArray [(.str (Str.ofString "self") 495),(.str (Str.ofString "n") 496)]) 0),(List.toArray [])⟩)::
((nat_lit 122),⟨(.type "tuple"),none,(.seq (List.toArray []) 0),(List.toArray [])⟩)::
((nat_lit 124),⟨(.type "code"),none,(.fields (List.toArray [(.str (Str.ofString "quantiles") 492),(.str (Str.ofString "NormalDist.quantiles") 493),(.str (Str.ofString "/claim/cut.py") 494),(.int (@OfNat.ofNat Int (nat_lit 33) (@instOfNat (nat_lit 33))) 0),(.int (@OfNat.ofNat Int (nat_lit 2) (@instOfNat (nat_lit 2))) 0),(.int (@OfNat.ofNat Int (nat_lit 0) (@instOfNat (nat_lit 0))) 0),(.int (@OfNat.ofNat Int (nat_lit 0) (@instOfNat (nat_lit 0))) 0),(.int (@OfNat.ofNat Int (nat_lit 3) (@instOfNat (nat_lit 3))) 0),(.ref 119),(.bool true),(.int (@OfNat.ofNat Int (nat_lit 374) (@instOfNat (nat_lit 374))) 0),(.ref 120),.none,(.ref 121),(.ref 122),(.ref 123),(.int (@OfNat.ofNat Int (nat_lit 497) (@instOfNat (nat_lit 497))) 0),(.int (@OfNat.ofNat Int (nat_lit 33) (@instOfNat (nat_lit 33))) 0),(.str (Str.ofString "/claim/cut.py") 498)])),(List.toArray [])⟩)::
((nat_lit 125),⟨(.type "function"),none,(.func ⟨(Str.ofString "quantiles"),(Str.ofString "NormalDist.quantiles"),a_NormalDist_quantiles,(.stmts b_NormalDist_quantiles),s_NormalDist_quantiles,3,[],(.ref 118),.none,.none,(.str (Str.ofString "cpy313.statistics") 387),none,(.ref 124),.none,0⟩),(List.toArray [])⟩)::
((nat_lit 126),⟨(.type "tuple"),none,(.seq (List.toArray []) 0),(List.toArray [])⟩)::
((nat_lit 128),⟨(.type "tuple"),none,(.seq (List.toArray [(.str (Str.ofString "self") 503),(.str (Str.ofString "other") 504)]) 0),(List.toArray [])⟩)::
((nat_lit 129),⟨(.type "tuple"),none,(.seq (List.toArray []) 0),(List.toArray [])⟩)::
((nat_lit 131),⟨(.type "code"),none,(.fields (List.toArray [(.str (Str.ofString "overlap") 500),(.str (Str.ofString "NormalDist.overlap") 501),(.str (Str.ofString "/claim/cut.py") 502),(.int (@OfNat.ofNat Int (nat_lit 36) (@instOfNat (nat_lit 36))) 0),(.int (@OfNat.ofNat Int (nat_lit 2) (@instOfNat (nat_lit 2))) 0),(.int (@OfNat.ofNat Int (nat_lit 0) (@instOfNat (nat_lit 0))) 0),(.int (@OfNat.ofNat Int (nat_lit 0) (@instOfNat (nat_lit 0))) 0),(.int (@OfNat.ofNat Int (nat_lit 3) (@instOfNat (nat_lit 3))) 0),(.ref 126),(.bool true),(.int (@OfNat.ofNat Int (nat_lit 374) (@instOfNat (nat_lit 374))) 0),(.ref 127),.none,(.ref 128),(.ref 129),(.ref 130),(.int (@OfNat.ofNat Int (nat_lit 505) (@instOfNat (nat_lit 505))) 0),(.int (@OfNat.ofNat Int (nat_lit 36) (@instOfNat (nat_lit 36))) 0),(.str (Str.ofString "/claim/cut.py") 506)])),(List.toArray [])⟩)::
((nat_lit 132),⟨(.type "function"),none,(.func ⟨(Str.ofString "overlap"),(Str.ofString "NormalDist.overlap"),a_NormalDist_overlap,(.stmts b_NormalDist_overlap),s_NormalDist_overlap,3,[],.none,.none,.none,(.str (Str.ofString "cpy313.statistics") 387),none,(.ref 131),.none,0⟩),(List.toArray [])⟩)::
((nat_lit 133),⟨(.type "tuple"),none,(.seq (List.toArray []) 0),(List.toArray [])⟩)::
((nat_lit 135),⟨(.type "tuple"),none,(.seq (List.toArray [(.str (Str.ofString "self") 511),(.str (Str.ofString "x") 512)]) 0),(List.toArray [])⟩)::
((nat_lit 136),⟨(.type "tuple"),none,(.seq (List.toArray []) 0),(List.toArray [])⟩)::
((nat_lit 138),⟨(.type "code"),none,(.fields (List.toArray [(.str (Str.ofString "zscore") 508),(.str (Str.ofString "NormalDist.zscore") 509),(.str (Str.ofString "/claim/cut.py") 510),(.int (@OfNat.ofNat Int (nat_lit 39) (@instOfNat (nat_lit 39))) 0),(.int (@OfNat.ofNat Int (nat_lit 2) (@instOfNat (nat_lit 2))) 0),(.int (@OfNat.ofNat Int (nat_lit 0) (@instOfNat (nat_lit 0))) 0),(.int (@OfNat.ofNat Int (nat_lit 0) (@instOfNat (nat_lit 0))) 0),(.int (@OfNat.ofNat Int (nat_lit 3) (@instOfNat (nat_lit 3))) 0),(.ref 133),(.bool true),(.int (@OfNat.ofNat Int (nat_lit 374) (@instOfNat (nat_lit 374))) 0),(.ref 134),.none,(.ref 135),(.ref 136),(.ref 137),(.int (@OfNat.ofNat Int (nat_lit 513) (@instOfNat (nat_lit 513))) 0),(.int (@OfNat.ofNat Int (nat_lit 39) (@instOfNat (nat_lit 39))) 0),(.str (Str.ofString "/claim/cut.py") 514)])),(List.toArray [])⟩)::
((nat_lit 139),⟨(.type "function"),none,(.func ⟨(Str.ofString "zscore"),(Str.ofString "NormalDist.zscore"),a_NormalDist_zscore,(.stmts b_NormalDist_zscore),s_NormalDist_zscore,3,[],.none,.none,.none,(.str (Str.ofString "cpy313.statistics") 387),none,(.ref 138),.none,0⟩),(List.toArray [])⟩)::
((nat_lit 140),⟨(.type "tuple"),none,(.seq (List.toArray []) 0),(List.toArray [])⟩)::
((nat_lit 142),⟨(.type "tuple"),none,(.seq (List.toArray [(.str (Str.ofString "self") 519)]) 0),(List.toArray [])⟩)::
((nat_lit 143),⟨(.type "tuple"),none,(.seq (List.toArray []) 0),(List.toArray [])⟩)::
((nat_lit 145),⟨(.type "code"),none,(.fields (List.toArray [(.str (Str.ofString "mean") 516),(.str (Str.ofString "NormalDist.mean") 517),(.str (Str.ofString "/claim/cut.py") 518),(.int (@OfNat.ofNat Int (nat_lit 42) (@instOfNat (nat_lit 42))) 0),(.int (@OfNat.ofNat Int (nat_lit 1) (@instOfNat (nat_lit 1))) 0),(.int (@OfNat.ofNat Int (nat_lit 0) (@instOfNat (nat_lit 0))) 0),(.int (@OfNat.ofNat Int (nat_lit 0) (@instOfNat (nat_lit 0))) 0),(.int (@OfNat.ofNat Int (nat_lit 3) (@instOfNat (nat_lit 3))) 0),(.ref 140),(.bool true),(.int (@OfNat.ofNat Int (nat_lit 374) (@instOfNat (nat_lit 374))) 0),(.ref 141),.none,(.ref 142),(.ref 143),(.ref 144),(.int (@OfNat.ofNat Int (nat_lit 520) (@instOfNat (nat_lit 520))) 0),(.int (@OfNat.ofNat Int (nat_lit 42) (@instOfNat (nat_lit 42))) 0),(.str (Str.ofString "/claim/cut.py") 521)])),(List.toArray [])⟩)::
((nat_lit 146),⟨(.type "function"),none,(.func ⟨(Str.ofString "mean"),(Str.ofString "NormalDist.mean"),a_NormalDist_mean,(.stmts b_NormalDist_mean),s_NormalDist_mean,3,[],.none,.none,.none,(.str (Str.ofString "cpy313.statistics") 387),none,(.ref 145),.none,0⟩),(List.toArray [])⟩)::
((nat_lit 147),⟨(.type "property"),none,(.fields (List.toArray [(.ref 146),.none,.none,.none,(.str (Str.ofString "mean") 523),(.bool false)])),(List.toArray [])⟩)::
((nat_lit 148),⟨(.type "tuple"),none,(.seq (List.toArray []) 0),(List.toArray [])⟩)::
((nat_lit 150),⟨(.type "tuple"),none,(.seq (List.toArray [(.str (Str.ofString "self") 527)]) 0),(List.toArray [])⟩)::
((nat_lit 151),⟨(.type "tuple"),none,(.seq (List.toArray []) 0),(List.toArray [])⟩)::
((nat_lit 153),⟨(.type "code"),none,(.fields (List.toArray [(.str (Str.ofString "median") 524),(.str (Str.ofString "NormalDist.median") 525),(.str (Str.ofString "/claim/cut.py") 526),(.int (@OfNat.ofNat Int (nat_lit 46) (@instOfNat (nat_lit 46))) 0),(.int (@OfNat.ofNat Int (nat_lit 1) (@instOfNat (nat_lit 1))) 0),(.int (@OfNat.ofNat Int (nat_lit 0) (@instOfNat (nat_lit 0))) 0),(.int (@OfNat.ofNat Int (nat_lit 0) (@instOfNat (nat_lit 0))) 0),(.int (@OfNat.ofNat Int (nat_lit 3) (@instOfNat (nat_lit 3))) 0),(.ref 148),(.bool true),(.int (@OfNat.ofNat Int (nat_lit 374) (@instOfNat (nat_lit 374))) 0),(.ref 149),.none,(.ref 150),(.ref 151),(.ref 152),(.int (@OfNat.ofNat Int (nat_lit 528) (@instOfNat (nat_lit 528))) 0),(.int (@OfNat.ofNat Int (nat_lit 46) (@instOfNat (nat_lit 46))) 0),(.str (Str.ofString "/claim/cut.py") 529)])),(List.toArray [])⟩)::
((nat_lit 154),⟨(.type "function"),none,(.func ⟨(Str.ofString "median"),(Str.ofString "NormalDist.median"),a_NormalDist_median,(.stmts b_NormalDist_median),s_NormalDist_median,3,[],.none,.none,.none,(.str (Str.ofString "cpy313.statistics") 387),none,(.ref 153),.none,0⟩),(List.toArray [])⟩)::
((nat_lit 155),⟨(.type "property"),none,(.fields (List.toArray [(.ref 154),.none,.none,.none,(.str (Str.ofString "median") 531),(.bool false)])),(List.toArray [])⟩)::
((nat_lit 156),⟨(.type "tuple"),none,(.seq (List.toArray []) 0),(List.toArray [])⟩)::
((nat_lit 158),⟨(.type "tuple"),none,(.seq (List.toArray [(.str (Str.ofString "self") 535)]) 0),(List.toArray [])⟩)::
((nat_lit 159),⟨(.type "tuple"),none,(.seq (List.toArray []) 0),(List.toArray [])⟩)::
((nat_lit 161),⟨(.type "code"),none,(.fields (List.toArray [(.str (Str.ofString "mode") 532),(.str (Str.ofString "NormalDist.mode") 533),(.str (Str.ofString "/claim/cut.py") 534),(.int (@OfNat.ofNat Int (nat_lit 50) (@instOfNat (nat_lit 50))) 0),(.int (@OfNat.ofNat Int (nat_lit 1) (@instOfNat (nat_lit 1))) 0),(.int (@OfNat.ofNat Int (nat_lit 0) (@instOfNat (nat_lit 0))) 0),(.int (@OfNat.ofNat Int (nat_lit 0) (@instOfNat (nat_lit 0))) 0),(.int (@OfNat.ofNat Int (nat_lit 3) (@instOfNat (nat_lit 3))) 0),(.ref 156),(.bool true),(.int (@OfNat.ofNat Int (nat_lit 374) (@instOfNat (nat_lit 374))) 0),(.ref 157),.none,(.ref 158),(.ref 159),(.ref 160),(.int (@OfNat.ofNat Int (nat_lit 536) (@instOfNat (nat_lit 536))) 0),(.int (@OfNat.ofNat Int (nat_lit 50) (@instOfNat (nat_lit 50))) 0),(.str (Str.ofString "/claim/cut.py") 537)])),(List.toArray [])⟩)::
((nat_lit 162),⟨(.type "function"),none,(.func ⟨(Str.ofString "mode"),(Str.ofString "NormalDist.mode"),a_NormalDist_mode,(.stmts b_NormalDist_mode),s_NormalDist_mode,3,[],.none,.none,.none,(.str (Str.ofString "cpy313.statistics") 387),none,(.ref 161),.none,0⟩),(List.toArray [])⟩)::
((nat_lit 163),⟨(.type "property"),none,(.fields (List.toArray [(.ref 162),.none,.none,.none,(.str (Str.ofString "mode") 539),(.bool false)])),(List.toArray [])⟩)::
((nat_lit 164),⟨(.type "tuple"),none,(.seq (List.toArray []) 0),(List.toArray [])⟩)::
((nat_lit 166),⟨(.type "tuple"),none,(.seq (List.toArray [(.str (Str.ofString "self") 543)]) 0),(List.toArray [])⟩)::
((nat_lit 167),⟨(.type "tuple"),none,(.seq (List.toArray []) 0),(List.toArray [])⟩)::
((nat_lit 169),⟨(.type "code"),none,(.fields (List.toArray [(.str (Str.ofString "stdev") 540),(.str (Str.ofString "NormalDist.stdev") 541),(.str (Str.ofString "/claim/cut.py") 542),(.int (@OfNat.ofNat Int (nat_lit 54) (@instOfNat (nat_lit 54))) 0),(.int (@OfNat.ofNat Int (nat_lit 1) (@instOfNat (nat_lit 1))) 0),(.int (@OfNat.ofNat Int (nat_lit 0) (@instOfNat (nat_lit 0))) 0),(.int (@OfNat.ofNat Int (nat_lit 0) (@instOfNat (nat_lit 0))) 0),(.int (@OfNat.ofNat Int (nat_lit 3) (@instOfNat (nat_lit 3))) 0),(.ref 164),(.bool true),(.int (@OfNat.ofNat Int (nat_lit 374) (@instOfNat (nat_lit 374))) 0),(.ref 165),.none,(.ref 166),(.ref 167),(.ref 168),(.int (@OfNat.ofNat Int (nat_lit 544) (@instOfNat (nat_lit 544))) 0),(.int (@OfNat.ofNat Int (nat_lit 54) (@instOfNat (nat_lit 54))) 0),(.str (Str.ofString "/claim/cut.py") 545)])),(List.toArray [])⟩)::
((nat_lit 170),⟨(.type "function"),none,(.func ⟨(Str.ofString "stdev"),(Str.ofString "NormalDist.stdev"),a_NormalDist_stdev,(.stmts b_NormalDist_stdev),s_NormalDist_stdev,3,[],.none,.none,.none,(.str (Str.ofString "cpy313.statistics") 387),none,(.ref 169),.none,0⟩),(List.toArray [])⟩)::
((nat_lit 171),⟨(.type "property"),none,(.fields (List.toArray [(.ref 170),.none,.none,.none,(.str (Str.ofString "stdev") 547),(.bool false)])),(List.toArray [])⟩)::
((nat_lit 172),⟨(.type "tuple"),none,(.seq (List.toArray []) 0),(List.toArray [])⟩)::
((nat_lit 174),⟨(.type "tuple"),none,(.seq (List.toArray [(.str (Str.ofString "self") 551)]) 0),(List.toArray [])⟩)::
((nat_lit 175),⟨(.type "tuple"),none,(.seq (List.toArray []) 0),(List.toArray [])⟩)::
((nat_lit 177),⟨(.type "code"),none,(.fields (List.toArray [(.str (Str.ofString "variance") 548),(.str (Str.ofString "NormalDist.variance") 549),(.str (Str.ofString "/claim/cut.py") 550),(.int (@OfNat.ofNat Int (nat_lit 58) (@instOfNat (nat_lit 58))) 0),(.int (@OfNat.ofNat Int (nat_lit 1) (@instOfNat (nat_lit 1))) 0),(.int (@OfNat.ofNat Int (nat_lit 0) (@instOfNat (nat_lit 0))) 0),(.int (@OfNat.ofNat Int (nat_lit 0) (@instOfNat (nat_lit 0))) 0),(.int (@OfNat.ofNat Int (nat_lit 3) (@instOfNat (nat_lit 3))) 0),(.ref 172),(.bool true),(.int (@OfNat.ofNat Int (nat_lit 374) (@instOfNat (nat_lit 374))) 0),(.ref 173),.none,(.ref 174),(.ref 175),(.ref 176),(.int (@OfNat.ofNat Int (nat_lit 552) (@instOfNat (nat_lit 552))) 0),(.int (@OfNat.ofNat Int (nat_lit 58) (@instOfNat (nat_lit 58))) 0),(.str (Str.ofString "/claim/cut.py") 553)])),(List.toArray [])⟩)::
((nat_lit 178),⟨(.type "function"),none,(.func ⟨(Str.ofString "variance"),(Str.ofString "NormalDist.variance"),a_NormalDist_variance,(.stmts b_NormalDist_variance),s_NormalDist_variance,3,[],.none,.none,.none,(.str (Str.ofString "cpy313.statistics") 387),none,(.ref 177),.none,0⟩),(List.toArray [])⟩)::
((nat_lit 179),⟨(.type "property"),none,(.fields (List.toArray [(.ref 178),.none,.none,.none,(.str (Str.ofString "variance") 555),(.bool false)])),(List.toArray [])⟩)::
((nat_lit 180),⟨(.type "tuple"),none,(.seq (List.toArray []) 0),(List.toArray [])⟩)::
((nat_lit 182),⟨(.type "tuple"),none,(.seq (List.toArray [(.str (Str.ofString "x1") 559),(.str (Str.ofString "x2") 560)]) 0),(List.toArray [])⟩)::
((nat_lit 183),⟨(.type "tuple"),none,(.seq (List.toArray []) 0),(List.toArray [])⟩)::
((nat_lit 185),⟨(.type "code"),none,(.fields (List.toArray [(.str (Str.ofString "__add__") 556),(.str (Str.ofString "NormalDist.__add__") 557),(.str (Str.ofString "/claim/cut.py") 558),(.int (@OfNat.ofNat Int (nat_lit 62) (@instOfNat (nat_lit 62))) 0),(.int (@OfNat.ofNat Int (nat_lit 2) (@instOfNat (nat_lit 2))) 0),(.int (@OfNat.ofNat Int (nat_lit 0) (@instOfNat (nat_lit 0))) 0),(.int (@OfNat.ofNat Int (nat_lit 0) (@instOfNat (nat_lit 0))) 0),(.int (@OfNat.ofNat Int (nat_lit 3) (@instOfNat (nat_lit 3))) 0),(.ref 180),(.bool true),(.int (@OfNat.ofNat Int (nat_lit 374) (@instOfNat (nat_lit 374))) 0),(.ref 181),.none,(.ref 182),(.ref 183),(.ref 184),(.int (@OfNat.ofNat Int (nat_lit 561) (@instOfNat (nat_lit 561))) 0),(.int (@OfNat.ofNat Int (nat_lit 62) (@instOfNat (nat_lit 62))) 0),(.str (Str.ofString "/claim/cut.py") 562)])),(List.toArray [])⟩)::
((nat_lit 186),⟨(.type "function"),none,(.func ⟨(Str.ofString "__add__"),(Str.ofString "NormalDist.__add__"),a_NormalDist___add__,(.stmts b_NormalDist___add__),s_NormalDist___add__,3,[],.none,.none,.none,(.str (Str.ofString "cpy313.statistics") 387),none,(.ref 185),.none,0⟩),(List.toArray [])⟩)::
((nat_lit 187),⟨(.type "tuple"),none,(.seq (List.toArray []) 0),(List.toArray [])⟩)::
((nat_lit 189),⟨(.type "tuple"),none,(.seq (List.toArray [(.str (Str.ofString "x1") 567),(.str (Str.ofString "x2") 568)]) 0),(List.toArray [])⟩)::
((nat_lit 190),⟨(.type "tuple"),none,(.seq (List.toArray []) 0),(List.toArray [])⟩)::
((nat_lit 192),⟨(.type "code"),none,(.fields (List.toArray [(.str (Str.ofString "__sub__") 564),(.str (Str.ofString "NormalDist.__sub__") 565),(.str (Str.ofString "/claim/cut.py") 566),(.int (@OfNat.ofNat Int (nat_lit 67) (@instOfNat (nat_lit 67))) 0),(.int (@OfNat.ofNat Int (nat_lit 2) (@instOfNat (nat_lit 2))) 0),(.int (@OfNat.ofNat Int (nat_lit 0) (@instOfNat (nat_lit 0))) 0),(.int (@OfNat.ofNat Int (nat_lit 0) (@instOfNat (nat_lit 0))) 0),(.int (@OfNat.ofNat Int (nat_lit 3) (@instOfNat (nat_lit 3))) 0),(.ref 187),(.bool true),(.int (@OfNat.ofNat Int (nat_lit 374) (@instOfNat (nat_lit 374))) 0),(.ref 188),.none,(.ref 189),(.ref 190),(.ref 191),(.int (@OfNat.ofNat Int (nat_lit 569) (@instOfNat (nat_lit 569))) 0),(.int (@OfNat.ofNat Int (nat_lit 67) (@instOfNat (nat_lit 67))) 0),(.str (Str.ofString "/claim/cut.py") 570)])),(List.toArray [])⟩)::
((nat_lit 193),⟨(.type "function"),none,(.func ⟨(Str.ofString "__sub__"),(Str.ofString "NormalDist.__sub__"),a_NormalDist___sub__,(.stmts b_NormalDist___sub__),s_NormalDist___sub__,3,[],.none,.none,.none,(.str (Str.ofString "cpy313.statistics") 387),none,(.ref 192),.none,0⟩),(List.toArray [])⟩)::
((nat_lit 194),⟨(.type "tuple"),none,(.seq (List.toArray []) 0),(List.toArray [])⟩)::
((nat_lit 196),⟨(.type "tuple"),none,(.seq (List.toArray [(.str (Str.ofString "x1") 575),(.str (Str.ofString "x2") 576)]) 0),(List.toArray [])⟩)::
((nat_lit 197),⟨(.type "tuple"),none,(.seq (List.toArray []) 0),(List.toArray [])⟩)::
((nat_lit 199),⟨(.type "code"),none,(.fields (List.toArray [(.str (Str.ofString "__mul__") 572),(.str (Str.ofString "NormalDist.__mul__") 573),(.str (Str.ofString "/claim/cut.py") 574),(.int (@OfNat.ofNat Int (nat_lit 72) (@instOfNat (nat_lit 72))) 0),(.int (@OfNat.ofNat Int (nat_lit 2) (@instOfNat (nat_lit 2))) 0),(.int (@OfNat.ofNat Int (nat_lit 0) (@instOfNat (nat_lit 0))) 0),(.int (@OfNat.ofNat Int (nat_lit 0) (@instOfNat (nat_lit 0))) 0),(.int (@OfNat.ofNat Int (nat_lit 3) (@instOfNat (nat_lit 3))) 0),(.ref 194),(.bool true),(.int (@OfNat.ofNat Int (nat_lit 374) (@instOfNat (nat_lit 374))) 0),(.ref 195),.none,(.ref 196),(.ref 197),(.ref 198),(.int (@OfNat.ofNat Int (nat_lit 577) (@instOfNat (nat_lit 577))) 0),(.int (@OfNat.ofNat Int (nat_lit 72) (@instOfNat (nat_lit 72))) 0),(.str (Str.ofString "/claim/cut.py") 578)])),(List.toArray [])⟩)::
((nat_lit 200),⟨(.type "function"),none,(.func ⟨(Str.ofString "__mul__"),(Str.ofString "NormalDist.__mul__"),a_NormalDist___mul__,(.stmts b_NormalDist___mul__),s_NormalDist___mul__,3,[],.none,.none,.none,(.str (Str.ofString "cpy313.statistics") 387),none,(.ref 199),.none,0⟩),(List.toArray [])⟩)::
((nat_lit 201),⟨(.type "tuple"),none,(.seq (List.toArray []) 0),(List.toArray [])⟩)::
((nat_lit 203),⟨(.type "tuple"),none,(.seq (List.toArray [(.str (Str.ofString "x1") 583),(.str (Str.ofString "x2") 584)]) 0),(List.toArray [])⟩)::
((nat_lit 204),⟨(.type "tuple"),none,(.seq (List.toArray []) 0),(List.toArray [])⟩)::
((nat_lit 206),⟨(.type "code"),none,(.fields (List.toArray [(.str (Str.ofString "__truediv__") 580),(.str (Str.ofString "NormalDist.__truediv__") 581),(.str (Str.ofString "/claim/cut.py") 582),(.int (@OfNat.ofNat Int (nat_lit 75) (@instOfNat (nat_lit 75))) 0),(.int (@OfNat.ofNat Int (nat_lit 2) (@instOfNat (nat_lit 2))) 0),(.int (@OfNat.ofNat Int (nat_lit 0) (@instOfNat (nat_lit 0))) 0),(.int (@OfNat.ofNat Int (nat_lit 0) (@instOfNat (nat_lit 0))) 0),(.int (@OfNat.ofNat Int (nat_lit 3) (@instOfNat (nat_lit 3))) 0),(.ref 201),(.bool true),(.int (@OfNat.ofNat Int (nat_lit 374) (@instOfNat (nat_lit 374))) 0),(.ref 202),.none,(.ref 203),(.ref 204),(.ref 205),(.int (@OfNat.ofNat Int (nat_lit 585) (@instOfNat (nat_lit 585))) 0),(.int (@OfNat.ofNat Int (nat_lit 75) (@instOfNat (nat_lit 75))) 0),(.str (Str.ofString "/claim/cut.py") 586)])),(List.toArray [])⟩)::
((nat_lit 207),⟨(.type "function"),none,(.func ⟨(Str.ofString "__truediv__"),(Str.ofString "NormalDist.__truediv__"),a_NormalDist___truediv__,(.stmts b_NormalDist___truediv__),s_NormalDist___truediv__,3,[],.none,.none,.none,(.str (Str.ofString "cpy313.statistics") 387),none,(.ref 206),.none,0⟩),(List.toArray [])⟩)::
((nat_lit 208),⟨(.type "tuple"),none,(.seq (List.toArray []) 0),(List.toArray [])⟩)::
((nat_lit 210),⟨(.type "tuple"),none,(.seq (List.toArray [(.str (Str.ofString "x1") 591)]) 0),(List.toArray [])⟩)::
((nat_lit 211),⟨(.type "tuple"),none,(.seq (List.toArray []) 0),(List.toArray [])⟩)::
((nat_lit 213),⟨(.type "code"),none,(.fields (List.toArray [(.str (Str.ofString "__pos__") 588),(.str (Str.ofString "NormalDist.__pos__") 589),(.str (Str.ofString "/claim/cut.py") 590),(.int (@OfNat.ofNat Int (nat_lit 78) (@instOfNat (nat_lit 78))) 0),(.int (@OfNat.ofNat Int (nat_lit 1) (@instOfNat (nat_lit 1))) 0),(.int (@OfNat.ofNat Int (nat_lit 0) (@instOfNat (nat_lit 0))) 0),(.int (@OfNat.ofNat Int (nat_lit 0) (@instOfNat (nat_lit 0))) 0),(.int (@OfNat.ofNat Int (nat_lit 3) (@instOfNat (nat_lit 3))) 0),(.ref 208),(.bool true),(.int (@OfNat.ofNat Int (nat_lit 374) (@instOfNat (nat_lit 374))) 0),(.ref 209),.none,(.ref 210),(.ref 211),(.ref 212),(.int (@OfNat.ofNat Int (nat_lit 592) (@instOfNat (nat_lit 592))) 0),(.int (@OfNat.ofNat Int (nat_lit 78) (@instOfNat (nat_lit 78))) 0),(.str (Str.ofString "/claim/cut.py") 593)])),(List.toArray [])⟩)::
((nat_lit 214),⟨(.type "function"),none,(.func ⟨(Str.ofString "__pos__"),(Str.ofString "NormalDist.__pos__"),a_NormalDist___pos__,(.stmts b_NormalDist___pos__),s_NormalDist___pos__,3,[],.none,.none,.none,(.str (Str.ofString "cpy313.statistics") 387),none,(.ref 213),.none,0⟩),(List.toArray [])⟩)::
((nat_lit 215),⟨(.type "tuple"),none,(.seq (List.toArray []) 0),(List.toArray [])⟩)::
((nat_lit 217),⟨(.type "tuple"),none,(.seq (List.toArray [(.str (Str.ofString "x1") 598)]) 0),(List.toArray [])⟩)::
((nat_lit 218),⟨(.type "tuple"),none,(.seq (List.toArray []) 0),(List.toArray [])⟩)::
((nat_lit 220),⟨(.type "code"),none,(.fields (List.toArray [(.str (Str.ofString "__neg__") 595),(.str (Str.ofString "NormalDist.__neg__") 596),(.str (Str.ofString "/claim/cut.py") 597),(.int (@OfNat.ofNat Int (nat_lit 81) (@instOfNat (nat_lit 81))) 0),(.int (@OfNat.ofNat Int (nat_lit 1) (@instOfNat (nat_lit 1))) 0),(.int (@OfNat.ofNat Int (nat_lit 0) (@instOfNat (nat_lit 0))) 0),(.int (@OfNat.ofNat Int (nat_lit 0) (@instOfNat (nat_lit 0))) 0),(.int (@OfNat.ofNat Int (nat_lit 3) (@instOfNat (nat_lit 3))) 0),(.ref 215),(.bool true),(.int (@OfNat.ofNat Int (nat_lit 374) (@instOfNat (nat_lit 374))) 0),(.ref 216),.none,(.ref 217),(.ref 218),(.ref 219),(.int (@OfNat.ofNat Int (nat_lit 599) (@instOfNat (nat_lit 599))) 0),(.int (@OfNat.ofNat Int (nat_lit 81) (@instOfNat (nat_lit 81))) 0),(.str (Str.ofString "/claim/cut.py") 600)])),(List.toArray [])⟩)::
((nat_lit 221),⟨(.type "function"),none,(.func ⟨(Str.ofString "__neg__"),(Str.ofString "NormalDist.__neg__"),a_NormalDist___neg__,(.stmts b_NormalDist___neg__),s_NormalDist___neg__,3,[],.none,.none,.none,(.str (Str.ofString "cpy313.statistics") 387),none,(.ref 220),.none,0⟩),(List.toArray [])⟩)::
((nat_lit 222),⟨(.type "tuple"),none,(.seq (List.toArray []) 0),(List.toArray [])⟩)::
((nat_lit 224),⟨(.type "tuple"),none,(.seq (List.toArray [(.str (Str.ofString "x1") 606),(.str (Str.ofString "x2") 607)]) 0),(List.toArray [])⟩)::
((nat_lit 225),⟨(.type "tuple"),none,(.seq (List.toArray []) 0),(List.toArray [])⟩)::
((nat_lit 227),⟨(.type "code"),none,(.fields (List.toArray [(.str (Str.ofString "__rsub__") 603),(.str (Str.ofString "NormalDist.__rsub__") 604),(.str (Str.ofString "/claim/cut.py") 605),(.int (@OfNat.ofNat Int (nat_lit 85) (@instOfNat (nat_lit 85))) 0),(.int (@OfNat.ofNat Int (nat_lit 2) (@instOfNat (nat_lit 2))) 0),(.int (@OfNat.ofNat Int (nat_lit 0) (@instOfNat (nat_lit 0))) 0),(.int (@OfNat.ofNat Int (nat_lit 0) (@instOfNat (nat_lit 0))) 0),(.int (@OfNat.ofNat Int (nat_lit 3) (@instOfNat (nat_lit 3))) 0),(.ref 222),(.bool true),(.int (@OfNat.ofNat Int (nat_lit 374) (@instOfNat (nat_lit 374))) 0),(.ref 223),.none,(.ref 224),(.ref 225),(.ref 226),(.int (@OfNat.ofNat Int (nat_lit 608) (@instOfNat (nat_lit 608))) 0),(.int (@OfNat.ofNat Int (nat_lit 85) (@instOfNat (nat_lit 85))) 0),(.str (Str.ofString "/claim/cut.py") 609)])),(List.toArray [])⟩)::
((nat_lit 228),⟨(.type "function"),none,(.func ⟨(Str.ofString "__rsub__"),(Str.ofString "NormalDist.__rsub__"),a_NormalDist___rsub__,(.stmts b_NormalDist___rsub__),s_NormalDist___rsub__,3,[],.none,.none,.none,(.str (Str.ofString "cpy313.statistics") 387),none,(.ref 227),.none,0⟩),(List.toArray [])⟩)::
((nat_lit 229),⟨(.type "tuple"),none,(.seq (List.toArray []) 0),(List.toArray [])⟩)::
((nat_lit 231),⟨(.type "tuple"),none,(.seq (List.toArray [(.str (Str.ofString "x1") 615),(.str (Str.ofString "x2") 616)]) 0),(List.toArray [])⟩)::
((nat_lit 232),⟨(.type "tuple"),none,(.seq (List.toArray []) 0),(List.toArray [])⟩)::
((nat_lit 234),⟨(.type "code"),none,(.fields (List.toArray [(.str (Str.ofString "__eq__") 612),(.str (Str.ofString "NormalDist.__eq__") 613),(.str (Str.ofString "/claim/cut.py") 614),(.int (@OfNat.ofNat Int (nat_lit 89) (@instOfNat (nat_lit 89))) 0),(.int (@OfNat.ofNat Int (nat_lit 2) (@instOfNat (nat_lit 2))) 0),(.int (@OfNat.ofNat Int (nat_lit 0) (@instOfNat (nat_lit 0))) 0),(.int (@OfNat.ofNat Int (nat_lit 0) (@instOfNat (nat_lit 0))) 0),(.int (@OfNat.ofNat Int (nat_lit 3) (@instOfNat (nat_lit 3))) 0),(.ref 229),(.bool true),(.int (@OfNat.ofNat Int (nat_lit 374) (@instOfNat (nat_lit 374))) 0),(.ref 230),.none,(.ref 231),(.ref 232),(.ref 233),(.int (@OfNat.ofNat Int (nat_lit 617) (@instOfNat (nat_lit 617))) 0),(.int (@OfNat.ofNat Int (nat_lit 89) (@instOfNat (nat_lit 89))) 0),(.str (Str.ofString "/claim/cut.py") 618)])),(List.toArray [])⟩)::
((nat_lit 235),⟨(.type "function"),none,(.func ⟨(Str.ofString "__eq__"),(Str.ofString "NormalDist.__eq__"),a_NormalDist___eq__,(.stmts b_NormalDist___eq__),s_NormalDist___eq__,3,[],.none,.none,.none,(.str (Str.ofString "cpy313.statistics") 387),none,(.ref 234),.none,0⟩),(List.toArray [])⟩)::
((nat_lit 236),⟨(.type "tuple"),none,(.seq (List.toArray []) 0),(List.toArray [])⟩)::
((nat_lit 238),⟨(.type "tuple"),none,(.seq (List.toArray [(.str (Str.ofString "self") 623)]) 0),(List.toArray [])⟩)::
((nat_lit 239),⟨(.type "tuple"),none,(.seq (List.toArray []) 0),(List.toArray [])⟩)::
((nat_lit 241),⟨(.type "code"),none,(.fields (List.toArray [(.str (Str.ofString "__hash__") 620),(.str (Str.ofString "NormalDist.__hash__") 621),(.str (Str.ofString "/claim/cut.py") 622),(.int (@OfNat.ofNat Int (nat_lit 94) (@instOfNat (nat_lit 94))) 0),(.int (@OfNat.ofNat Int (nat_lit 1) (@instOfNat (nat_lit 1))) 0),(.int (@OfNat.ofNat Int (nat_lit 0) (@instOfNat (nat_lit 0))) 0),(.int (@OfNat.ofNat Int (nat_lit 0) (@instOfNat (nat_lit 0))) 0),(.int (@OfNat.ofNat Int (nat_lit 3) (@instOfNat (nat_lit 3))) 0),(.ref 236),(.bool true),(.int (@OfNat.ofNat Int (nat_lit 374) (@instOfNat (nat_lit 374))) 0),(.ref 237),.none,(.ref 238),(.ref 239),(.ref 240),(.int (@OfNat.ofNat Int (nat_lit 624) (@instOfNat (nat_lit 624))) 0),(.int (@OfNat.ofNat Int (nat_lit 94) (@instOfNat (nat_lit 94))) 0),(.str (Str.ofString "/claim/cut.py") 625)])),(List.toArray [])⟩)::
((nat_lit 242),⟨(.type "function"),none,(.func ⟨(Str.ofString "__hash__"),(Str.ofString "NormalDist.__hash__"),a_NormalDist___hash__,(.stmts b_NormalDist___hash__),s_NormalDist___hash__,3,[],.none,.none,.none,(.str (Str.ofString "cpy313.statistics") 387),none,(.ref 241),.none,0⟩),(List.toArray [])⟩)::
((nat_lit 243),⟨(.type "tuple"),none,(.seq (List.toArray []) 0),(List.toArray [])⟩)::
((nat_lit 245),⟨(.type "tuple"),none,(.seq (List.toArray [(.str (Str.ofString "self") 630)]) 0),(List.toArray [])⟩)::
((nat_lit 246),⟨(.type "tuple"),none,(.seq (List.toArray []) 0),(List.toArray [])⟩)::
((nat_lit 248),⟨(.type "code"),none,(.fields (List.toArray [(.str (Str.ofString "__repr__") 627),(.str (Str.ofString "NormalDist.__repr__") 628),(.str (Str.ofString "/claim/cut.py") 629),(.int (@OfNat.ofNat Int (nat_lit 97) (@instOfNat (nat_lit 97))) 0),(.int (@OfNat.ofNat Int (nat_lit 1) (@instOfNat (nat_lit 1))) 0),(.int (@OfNat.ofNat Int (nat_lit 0) (@instOfNat (nat_lit 0))) 0),(.int (@OfNat.ofNat Int (nat_lit 0) (@instOfNat (nat_lit 0))) 0),(.int (@OfNat.ofNat Int (nat_lit 3) (@instOfNat (nat_lit 3))) 0),(.ref 243),(.bool true),(.int (@OfNat.ofNat Int (nat_lit 374) (@instOfNat (nat_lit 374))) 0),(.ref 244),.none,(.ref 245),(.ref 246),(.ref 247),(.int (@OfNat.ofNat Int (nat_lit 631) (@instOfNat (nat_lit 631))) 0),(.int (@OfNat.ofNat Int (nat_lit 97) (@instOfNat (nat_lit 97))) 0),(.str (Str.ofString "/claim/cut.py") 632)])),(List.toArray [])⟩)::
((nat_lit 249),⟨(.type "function"),none,(.func ⟨(Str.ofString "__repr__"),(Str.ofString "NormalDist.__repr__"),a_NormalDist___repr__,(.stmts b_NormalDist___repr__),s_NormalDist___repr__,3,[],.none,.none,.none,(.str (Str.ofString "cpy313.statistics") 387),none,(.ref 248),.none,0⟩),(List.toArray [])⟩)::
((nat_lit 250),⟨(.type "tuple"),none,(.seq (List.toArray []) 0),(List.toArray [])⟩)::
((nat_lit 252),⟨(.type "tuple"),none,(.seq (List.toArray [(.str (Str.ofString "self") 637)]) 0),(List.toArray [])⟩)::
((nat_lit 253),⟨(.type "tuple"),none,(.seq (List.toArray []) 0),(List.toArray [])⟩)::
((nat_lit 255),⟨(.type "code"),none,(.fields (List.toArray [(.str (Str.ofString "__getstate__") 634),(.str (Str.ofString "NormalDist.__getstate__") 635),(.str (Str.ofString "/claim/cut.py") 636),(.int (@OfNat.ofNat Int (nat_lit 100) (@instOfNat (nat_lit 100))) 0),(.int (@OfNat.ofNat Int (nat_lit 1) (@instOfNat (nat_lit 1))) 0),(.int (@OfNat.ofNat Int (nat_lit 0) (@instOfNat (nat_lit 0))) 0),(.int (@OfNat.ofNat Int (nat_lit 0) (@instOfNat (nat_lit 0))) 0),(.int (@OfNat.ofNat Int (nat_lit 3) (@instOfNat (nat_lit 3))) 0),(.ref 250),(.bool true),(.int (@OfNat.ofNat Int (nat_lit 374) (@instOfNat (nat_lit 374))) 0),(.ref 251),.none,(.ref 252),(.ref 253),(.ref 254),(.int (@OfNat.ofNat Int (nat_lit 638) (@instOfNat (nat_lit 638))) 0),(.int (@OfNat.ofNat Int (nat_lit 100) (@instOfNat (nat_lit 100))) 0),(.str (Str.ofString "/claim/cut.py") 639)])),(List.toArray [])⟩)::
((nat_lit 256),⟨(.type "function"),none,(.func ⟨(Str.ofString "__getstate__"),(Str.ofString "NormalDist.__getstate__"),a_NormalDist___getstate__,(.stmts b_NormalDist___getstate__),s_NormalDist___getstate__,3,[],.none,.none,.none,(.str (Str.ofString "cpy313.statistics") 387),none,(.ref 255),.none,0⟩),(List.toArray [])⟩)::
((nat_lit 257),⟨(.type "tuple"),none,(.seq (List.toArray []) 0),(List.toArray [])⟩)::
((nat_lit 259),⟨(.type "tuple"),none,(.seq (List.toArray [(.str (Str.ofString "self") 644),(.str (Str.ofString "state") 645)]) 0),(List.toArray [])⟩)::
((nat_lit 260),⟨(.type "tuple"),none,(.seq (List.toArray []) 0),(List.toArray [])⟩)::
((nat_lit 262),⟨(.type "code"),none,(.fields (List.toArray [(.str (Str.ofString "__setstate__") 641),(.str (Str.ofString "NormalDist.__setstate__") 642),(.str (Str.ofString "/claim/cut.py") 643),(.int (@OfNat.ofNat Int (nat_lit 103) (@instOfNat (nat_lit 103))) 0),(.int (@OfNat.ofNat Int (nat_lit 2) (@instOfNat (nat_lit 2))) 0),(.int (@OfNat.ofNat Int (nat_lit 0) (@instOfNat (nat_lit 0))) 0),(.int (@OfNat.ofNat Int (nat_lit 0) (@instOfNat (nat_lit 0))) 0),(.int (@OfNat.ofNat Int (nat_lit 3) (@instOfNat (nat_lit 3))) 0),(.ref 257),(.bool true),(.int (@OfNat.ofNat Int (nat_lit 374) (@instOfNat (nat_lit 374))) 0),(.ref 258),.none,(.ref 259),(.ref 260),(.ref 261),(.int (@OfNat.ofNat Int (nat_lit 646) (@instOfNat (nat_lit 646))) 0),(.int (@OfNat.ofNat Int (nat_lit 103) (@instOfNat (nat_lit 103))) 0),(.str (Str.ofString "/claim/cut.py") 647)])),(List.toArray [])⟩)::
((nat_lit 263),⟨(.type "function"),none,(.func ⟨(Str.ofString "__setstate__"),(Str.ofString "NormalDist.__setstate__"),a_NormalDist___setstate__,(.stmts b_NormalDist___setstate__),s_NormalDist___setstate__,3,[],.none,.none,.none,(.str (Str.ofString "cpy313.statistics") 387),none,(.ref 262),.none,0⟩),(List.toArray [])⟩)::
((nat_lit 264),⟨(.type "tuple"),none,(.seq (List.toArray [(.str (Str.ofString "_mu") 649),(.str (Str.ofString "_sigma") 650)]) 0),(List.toArray [])⟩)::
((nat_lit 269),⟨(.type "dict"),none,(.dict (List.toArray [⟨(PySem.PyData.keyHash P (Str.ofString "__module__")),(.str (Str.ofString "__module__") 414),(.str (Str.ofString "cpy313.statistics") 387)⟩,⟨(PySem.PyData.keyHash P (Str.ofString "__firstlineno__")),(.str (Str.ofString "__firstlineno__") 418),(.int (@OfNat.ofNat Int (nat_lit 8) (@instOfNat (nat_lit 8))) 417)⟩,⟨(PySem.PyData.keyHash P (Str.ofString "__slots__")),(.str (Str.ofString "__slots__") 425),(.ref 70)⟩,⟨(PySem.PyData.keyHash P (Str.ofString "__init__")),(.str (Str.ofString "__init__") 436),(.ref 78)⟩,⟨(PySem.PyData.keyHash P (Str.ofString "from_samples")),(.str (Str.ofString "from_samples") 456),(.ref 87)⟩,⟨(PySem.PyData.keyHash P (Str.ofString "samples")),(.str (Str.ofString "samples") 466),(.ref 96)⟩,⟨(PySem.PyData.keyHash P (Str.ofString "pdf")),(.str (Str.ofString "pdf") 474),(.ref 103)⟩,⟨(PySem.PyData.keyHash P (Str.ofString "cdf")),(.str (Str.ofString "cdf") 482),(.ref 110)⟩,⟨(PySem.PyData.keyHash P (Str.ofString "inv_cdf")),(.str (Str.ofString "inv_cdf") 490),(.ref 117)⟩,⟨(PySem.PyData.keyHash P (Str.ofString "quantiles")),(.str (Str.ofString "quantiles") 499),(.ref 125)⟩,⟨(PySem.PyData.keyHash P (Str.ofString "overlap")),(.str (Str.ofString "overlap") 507),(.ref 132)⟩,⟨(PySem.PyData.keyHash P (Str.ofString "zscore")),(.str (Str.ofString "zscore") 515),(.ref 139)⟩,⟨(PySem.PyData.keyHash P (Str.ofString "mean")),(.str (Str.ofString "mean") 523),(.ref 147)⟩,⟨(PySem.PyData.keyHash P (Str.ofString "median")),(.str (Str.ofString "median") 531),(.ref 155)⟩,⟨(PySem.PyData.keyHash P (Str.ofString "mode")),(.str (Str.ofString "mode") 539),(.ref 163)⟩,⟨(PySem.PyData.keyHash P (Str.ofString "stdev")),(.str (Str.ofString "stdev") 547),(.ref 171)⟩,⟨(PySem.PyData.keyHash P (Str.ofString "variance")),(.str (Str.ofString "variance") 555),(.ref 179)⟩,⟨(PySem.PyData.keyHash P (Str.ofString "__add__")),(.str (Str.ofString "__add__") 563),(.ref 186)⟩,⟨(PySem.PyData.keyHash P (Str.ofString "__sub__")),(.str (Str.ofString "__sub__") 571),(.ref 193)⟩,⟨(PySem.PyData.keyHash P (Str.ofString "__mul__")),(.str (Str.ofString "__mul__") 579),(.ref 200)⟩,⟨(PySem.PyData.keyHash P (Str.ofString "__truediv__")),(.str (Str.ofString "__truediv__") 587),(.ref 207)⟩,⟨(PySem.PyData.keyHash P (Str.ofString "__pos__")),(.str (Str.ofString "__pos__") 594),(.ref 214)⟩,⟨(PySem.PyData.keyHash P (Str.ofString "__neg__")),(.str (Str.ofString "__neg__") 601),(.ref 221)⟩,⟨(PySem.PyData.keyHash P (Str.ofString "__radd__")),(.str (Str.ofString "__radd__") 602),(.ref 186)⟩,⟨(PySem.PyData.keyHash P (Str.ofString "__rsub__")),(.str (Str.ofString "__rsub__") 610),(.ref 228)⟩,⟨(PySem.PyData.keyHash P (Str.ofString "__rmul__")),(.str (Str.ofString "__rmul__") 611),(.ref 200)⟩,⟨(PySem.PyData.keyHash P (Str.ofString "__eq__")),(.str (Str.ofString "__eq__") 619),(.ref 235)⟩,⟨(PySem.PyData.keyHash P (Str.ofString "__hash__")),(.str (Str.ofString "__hash__") 626),(.ref 242)⟩,⟨(PySem.PyData.keyHash P (Str.ofString "__repr__")),(.str (Str.ofString "__repr__") 633),(.ref 249)⟩,⟨(PySem.PyData.keyHash P (Str.ofString "__getstate__")),(.str (Str.ofString "__getstate__") 640),(.ref 256)⟩,⟨(PySem.PyData.keyHash P (Str.ofString "__setstate__")),(.str (Str.ofString "__setstate__") 648),(.ref 263)⟩,⟨(PySem.PyData.keyHash P (Str.ofString "__static_attributes__")),(.str (Str.ofString "__static_attributes__") 651),(.ref 264)⟩,⟨(PySem.PyData.keyHash P (Str.ofString "_mu")),(.str (Str.ofString "_mu") 653),(.ref 271)⟩,⟨(PySem.PyData.keyHash P (Str.ofString "_sigma")),(.str (Str.ofString "_sigma") 655),(.ref 272)⟩,⟨(PySem.PyData.keyHash P (Str.ofString "__doc__")),(.str (Str.ofString "__doc__") 656),.none⟩]) 4),(List.toArray [])⟩)::
((nat_lit 270),⟨(.type "type"),none,(.cls ⟨(Str.ofString "NormalDist"),[(.type "object")],[(.ref 270),(.type "object")],269,(Str.ofString "NormalDist"),false,[(Str.ofString "_mu"),(Str.ofString "_sigma")],[],false,none,false⟩),(List.toArray [none,none,(some (.str (Str.ofString "NormalDist") 407)),(some (.str (Str.ofString "NormalDist") 415)),(some (.builtin "object.__new__")),(some (.bool false))])⟩)::
((nat_lit 271),⟨(.type "member_descriptor"),none,(.fields (List.toArray [(.str (Str.ofString "_mu") 652),(.ref 270),(.builtin "proto.slot"),(.builtin "proto.slot#set"),(.int (@OfNat.ofNat Int (nat_lit 1) (@instOfNat (nat_lit 1))) 0)])),(List.toArray [])⟩)::
((nat_lit 272),⟨(.type "member_descriptor"),none,(.fields (List.toArray [(.str (Str.ofString "_sigma") 654),(.ref 270),(.builtin "proto.slot"),(.builtin "proto.slot#set"),(.int (@OfNat.ofNat Int (nat_lit 0) (@instOfNat (nat_lit 0))) 0)])),(List.toArray [])⟩)::
((nat_lit 275),⟨(.type "tuple"),none,(.seq (List.toArray []) 0),(List.toArray [])⟩)::
((nat_lit 277),⟨(.type "tuple"),none,(.seq (List.toArray [(.str (Str.ofString "x") 664),(.str (Str.ofString "bound") 665)]) 0),(List.toArray [])⟩)::
((nat_lit 278),⟨(.type "tuple"),none,(.seq (List.toArray []) 0),(List.toArray [])⟩)::
((nat_lit 280),⟨(.type "code"),none,(.fields (List.toArray [(.str (Str.ofString "_law_near") 661),(.str (Str.ofString "_law_near") 662),(.str (Str.ofString "/claim/cut.py") 663),(.int (@OfNat.ofNat Int (nat_lit 106) (@instOfNat (nat_lit 106))) 0),(.int (@OfNat.ofNat Int (nat_lit 2) (@instOfNat (nat_lit 2))) 0),(.int (@OfNat.ofNat Int (nat_lit 0) (@instOfNat (nat_lit 0))) 0),(.int (@OfNat.ofNat Int (nat_lit 0) (@instOfNat (nat_lit 0))) 0),(.int (@OfNat.ofNat Int (nat_lit 3) (@instOfNat (nat_lit 3))) 0),(.ref 275),(.bool true),(.int (@OfNat.ofNat Int (nat_lit 374) (@instOfNat (nat_lit 374))) 0),(.ref 276),.none,(.ref 277),(.ref 278),(.ref 279),(.int (@OfNat.ofNat Int (nat_lit 666) (@instOfNat (nat_lit 666))) 0),(.int (@OfNat.ofNat Int (nat_lit 106) (@instOfNat (nat_lit 106))) 0),(.str (Str.ofString "/claim/cut.py") 667)])),(List.toArray [])⟩)::
((nat_lit 281),⟨(.type "function"),none,(.func ⟨(Str.ofString "_law_near"),(Str.ofString "_law_near"),a__law_near,(.stmts b__law_near),s__law_near,3,[],.none,.none,.none,(.str (Str.ofString "law_oz0057_02") 659),none,(.ref 280),.none,0⟩),(List.toArray [])⟩)::
((nat_lit 282),⟨(.type "tuple"),none,(.seq (List.toArray []) 0),(List.toArray [])⟩)::
((nat_lit 284),⟨(.type "tuple"),none,(.seq (List.toArray [(.str (Str.ofString "readings") 672),(.str (Str.ofString "weights") 673),(.str (Str.ofString "total") 674),(.str (Str.ofString "i") 675)]) 0),(List.toArray [])⟩)::
((nat_lit 285),⟨(.type "tuple"),none,(.seq (List.toArray []) 0),(List.toArray [])⟩)::
((nat_lit 287),⟨(.type "code"),none,(.fields (List.toArray [(.str (Str.ofString "_law_weighed") 669),(.str (Str.ofString "_law_weighed") 670),(.str (Str.ofString "/claim/cut.py") 671),(.int (@OfNat.ofNat Int (nat_lit 108) (@instOfNat (nat_lit 108))) 0),(.int (@OfNat.ofNat Int (nat_lit 2) (@instOfNat (nat_lit 2))) 0),(.int (@OfNat.ofNat Int (nat_lit 0) (@instOfNat (nat_lit 0))) 0),(.int (@OfNat.ofNat Int (nat_lit 0) (@instOfNat (nat_lit 0))) 0),(.int (@OfNat.ofNat Int (nat_lit 3) (@instOfNat (nat_lit 3))) 0),(.ref 282),(.bool true),(.int (@OfNat.ofNat Int (nat_lit 374) (@instOfNat (nat_lit 374))) 0),(.ref 283),.none,(.ref 284),(.ref 285),(.ref 286),(.int (@OfNat.ofNat Int (nat_lit 676) (@instOfNat (nat_lit 676))) 0),(.int (@OfNat.ofNat Int (nat_lit 108) (@instOfNat (nat_lit 108))) 0),(.str (Str.ofString "/claim/cut.py") 677)])),(List.toArray [])⟩)::
((nat_lit 288),⟨(.type "function"),none,(.func ⟨(Str.ofString "_law_weighed"),(Str.ofString "_law_weighed"),a__law_weighed,(.stmts b__law_weighed),s__law_weighed,3,[],.none,.none,.none,(.str (Str.ofString "law_oz0057_02") 659),none,(.ref 287),.none,0⟩),(List.toArray [])⟩)::
((nat_lit 289),⟨(.type "tuple"),none,(.seq (List.toArray []) 0),(List.toArray [])⟩)::
((nat_lit 291),⟨(.type "tuple"),none,(.seq (List.toArray [(.str (Str.ofString "total") 682)]) 0),(List.toArray [])⟩)::
((nat_lit 292),⟨(.type "tuple"),none,(.seq (List.toArray []) 0),(List.toArray [])⟩)::
((nat_lit 294),⟨(.type "code"),none,(.fields (List.toArray [(.str (Str.ofString "_law_refused") 679),(.str (Str.ofString "_law_refused") 680),(.str (Str.ofString "/claim/cut.py") 681),(.int (@OfNat.ofNat Int (nat_lit 116) (@instOfNat (nat_lit 116))) 0),(.int (@OfNat.ofNat Int (nat_lit 1) (@instOfNat (nat_lit 1))) 0),(.int (@OfNat.ofNat Int (nat_lit 0) (@instOfNat (nat_lit 0))) 0),(.int (@OfNat.ofNat Int (nat_lit 0) (@instOfNat (nat_lit 0))) 0),(.int (@OfNat.ofNat Int (nat_lit 3) (@instOfNat (nat_lit 3))) 0),(.ref 289),(.bool true),(.int (@OfNat.ofNat Int (nat_lit 374) (@instOfNat (nat_lit 374))) 0),(.ref 290),.none,(.ref 291),(.ref 292),(.ref 293),(.int (@OfNat.ofNat Int (nat_lit 683) (@instOfNat (nat_lit 683))) 0),(.int (@OfNat.ofNat Int (nat_lit 116) (@instOfNat (nat_lit 116))) 0),(.str (Str.ofString "/claim/cut.py") 684)])),(List.toArray [])⟩)::
((nat_lit 295),⟨(.type "function"),none,(.func ⟨(Str.ofString "_law_refused"),(Str.ofString "_law_refused"),a__law_refused,(.stmts b__law_refused),s__law_refused,3,[],.none,.none,.none,(.str (Str.ofString "law_oz0057_02") 659),none,(.ref 294),.none,0⟩),(List.toArray [])⟩)::
((nat_lit 296),⟨(.type "tuple"),none,(.seq (List.toArray []) 0),(List.toArray [])⟩)::
((nat_lit 299),⟨(.type "code"),none,(.fields (List.toArray [(.str (Str.ofString "law") 686),(.str (Str.ofString "law") 687),(.str (Str.ofString "/claim/cut.py") 688),(.int (@OfNat.ofNat Int (nat_lit 122) (@instOfNat (nat_lit 122))) 0),(.int (@OfNat.ofNat Int (nat_lit 1) (@instOfNat (nat_lit 1))) 0),(.int (@OfNat.ofNat Int (nat_lit 0) (@instOfNat (nat_lit 0))) 0),(.int (@OfNat.ofNat Int (nat_lit 0) (@instOfNat (nat_lit 0))) 0),(.int (@OfNat.ofNat Int (nat_lit 3) (@instOfNat (nat_lit 3))) 0),(.ref 296),(.bool true),(.int (@OfNat.ofNat Int (nat_lit 374) (@instOfNat (nat_lit 374))) 0),(.ref 297),.none,.none,.none,(.ref 298),(.int (@OfNat.ofNat Int (nat_lit 689) (@instOfNat (nat_lit 689))) 0),(.int (@OfNat.ofNat Int (nat_lit 122) (@instOfNat (nat_lit 122))) 0),(.str (Str.ofString "/claim/cut.py") 690)])),(List.toArray [])⟩)::
((nat_lit 300),⟨(.type "function"),none,(.func ⟨(Str.ofString "law"),(Str.ofString "law"),a_law,(.stmts b_law),s_law,3,[],.none,.none,.none,(.str (Str.ofString "law_oz0057_02") 659),none,(.ref 299),.none,0⟩),(List.toArray [])⟩)::[]
set_option maxRecDepth 100000 in
set_option maxHeartbeats 0 in
noncomputable def q2 : Program :=
  letI c0 : Stmt := _
  haveI : PySem.Challenge.pw_oz0057_02.main.body[0]? = some c0 := rfl
  letI c1 : Stmt := _
  haveI : PySem.Challenge.pw_oz0057_02.main.body[1]? = some c1 := rfl
  letI c3 : Stmt := _
  haveI : PySem.Challenge.pw_oz0057_02.main.body[3]? = some c3 := rfl
  letI c4 : Stmt := _
  haveI : PySem.Challenge.pw_oz0057_02.main.body[4]? = some c4 := rfl
  letI c6 : Stmt := _
  haveI : PySem.Challenge.pw_oz0057_02.main.body[6]? = some c6 := rfl
  letI c7 : Stmt := _
  haveI : PySem.Challenge.pw_oz0057_02.main.body[7]? = some c7 := rfl
  letI c8 : Stmt := _
  haveI : PySem.Challenge.pw_oz0057_02.main.body[8]? = some c8 := rfl
  letI c9 : Stmt := _
  haveI : PySem.Challenge.pw_oz0057_02.main.body[9]? = some c9 := rfl
  { PySem.Challenge.pw_oz0057_02 with main := { PySem.Challenge.pw_oz0057_02.main with body := [c0, c1, c3, c4, c6, c7, c8, c9] } }
set_option maxRecDepth 100000 in
set_option maxHeartbeats 0 in
def T2 : Prop :=
  letI d : DefRec := _
  haveI : defOf q2 PySem.Challenge.rw_oz0057_02.row.toRowW.name = some (d, []) := rfl
  WalkO q2 [Str.ofString "NormalDist"] (XL q2 []) (kHook K2 ((nat_lit 2)::(nat_lit 3)::(nat_lit 43)::(nat_lit 45)::(nat_lit 46)::(nat_lit 48)::(nat_lit 49)::(nat_lit 50)::(nat_lit 57)::(nat_lit 58)::(nat_lit 59)::(nat_lit 60)::(nat_lit 70)::(nat_lit 71)::(nat_lit 72)::(nat_lit 74)::(nat_lit 75)::(nat_lit 77)::(nat_lit 78)::(nat_lit 79)::(nat_lit 81)::(nat_lit 82)::(nat_lit 84)::(nat_lit 85)::(nat_lit 86)::(nat_lit 87)::(nat_lit 88)::(nat_lit 89)::(nat_lit 90)::(nat_lit 92)::(nat_lit 93)::(nat_lit 95)::(nat_lit 96)::(nat_lit 97)::(nat_lit 99)::(nat_lit 100)::(nat_lit 102)::(nat_lit 103)::(nat_lit 104)::(nat_lit 106)::(nat_lit 107)::(nat_lit 109)::(nat_lit 110)::(nat_lit 111)::(nat_lit 113)::(nat_lit 114)::(nat_lit 116)::(nat_lit 117)::(nat_lit 118)::(nat_lit 119)::(nat_lit 121)::(nat_lit 122)::(nat_lit 124)::(nat_lit 125)::(nat_lit 126)::(nat_lit 128)::(nat_lit 129)::(nat_lit 131)::(nat_lit 132)::(nat_lit 133)::(nat_lit 135)::(nat_lit 136)::(nat_lit 138)::(nat_lit 139)::(nat_lit 140)::(nat_lit 142)::(nat_lit 143)::(nat_lit 145)::(nat_lit 146)::(nat_lit 147)::(nat_lit 148)::(nat_lit 150)::(nat_lit 151)::(nat_lit 153)::(nat_lit 154)::(nat_lit 155)::(nat_lit 156)::(nat_lit 158)::(nat_lit 159)::(nat_lit 161)::(nat_lit 162)::(nat_lit 163)::(nat_lit 164)::(nat_lit 166)::(nat_lit 167)::(nat_lit 169)::(nat_lit 170)::(nat_lit 171)::(nat_lit 172)::(nat_lit 174)::(nat_lit 175)::(nat_lit 177)::(nat_lit 178)::(nat_lit 179)::(nat_lit 180)::(nat_lit 182)::(nat_lit 183)::(nat_lit 185)::(nat_lit 186)::(nat_lit 187)::(nat_lit 189)::(nat_lit 190)::(nat_lit 192)::(nat_lit 193)::(nat_lit 194)::(nat_lit 196)::(nat_lit 197)::(nat_lit 199)::(nat_lit 200)::(nat_lit 201)::(nat_lit 203)::(nat_lit 204)::(nat_lit 206)::(nat_lit 207)::(nat_lit 208)::(nat_lit 210)::(nat_lit 211)::(nat_lit 213)::(nat_lit 214)::(nat_lit 215)::(nat_lit 217)::(nat_lit 218)::(nat_lit 220)::(nat_lit 221)::(nat_lit 222)::(nat_lit 224)::(nat_lit 225)::(nat_lit 227)::(nat_lit 228)::(nat_lit 229)::(nat_lit 231)::(nat_lit 232)::(nat_lit 234)::(nat_lit 235)::(nat_lit 236)::(nat_lit 238)::(nat_lit 239)::(nat_lit 241)::(nat_lit 242)::(nat_lit 243)::(nat_lit 245)::(nat_lit 246)::(nat_lit 248)::(nat_lit 249)::(nat_lit 250)::(nat_lit 252)::(nat_lit 253)::(nat_lit 255)::(nat_lit 256)::(nat_lit 257)::(nat_lit 259)::(nat_lit 260)::(nat_lit 262)::(nat_lit 263)::(nat_lit 264)::(nat_lit 269)::(nat_lit 270)::(nat_lit 271)::(nat_lit 272)::(nat_lit 275)::(nat_lit 277)::(nat_lit 278)::(nat_lit 280)::(nat_lit 281)::(nat_lit 282)::(nat_lit 284)::(nat_lit 285)::(nat_lit 287)::(nat_lit 288)::(nat_lit 289)::(nat_lit 291)::(nat_lit 292)::(nat_lit 294)::(nat_lit 295)::(nat_lit 296)::(nat_lit 299)::(nat_lit 300)::[]) (fun _ => by kernel_rfl)).says PySem.Challenge.rw_oz0057_02.row.toRowW d [] (fun f vs => PySem.call f vs [])
end Mine

end HK2
section Refl
open PySem PySem.W PySem.Calls PyProof.Rows
set_option Elab.async false
namespace Mine
section
variable {prog : Program} {w : World} {A : Around} {E : Value → Shared → Prop} {s : Shared} {K : Frag} {x C L f f0 : Addr} {h₀ : Heap} {m : Str → Option Value} {ox : Obj} {od : Option Obj} {T : String}

theorem int_mul_plain (a : Int) (t : Tok) (l : Addr) (o : Obj) (ho : o.data = .plain) :
    Meets (Builtin.«int.__mul__» ⟨[.int a t, .ref l], []⟩) (fun _ R s => s.heap.get? l = some o ∧ R (.ok (.ret Value.notImplemented)) s) :=
  .of_wp fun prog w A R s h => by
    obtain ⟨hp, g, d, tk, os⟩ := s; obtain ⟨hl, h⟩ := h
    obtain ⟨c, di, da, sl⟩ := o
    dsimp only at ho
    subst ho
    wp_walk; exact ⟨_, rfl, h⟩
theorem rbin_K {op : Operator} {a : Value} {id : String} {Q : Value → Shared → Prop} (F : Fr h₀ L s.heap m) (X₀ : K.In h₀) (I : InstAt s.heap x ox C od) (ha : s.TypeIs a T) (ha' : typeOf a = pure (.type T)) (hc : selfFirst K C = true)
    (hfT : fillsNumberSlot (.type T) op.info.2 = pure true) (sl : Slot T (PySem.dunder op.info.2) id)
    (hs : findIn K (.ref C) (PySem.dunder op.info.2) = some (some (.ref f0))) (hr : findIn K (.ref C) (dunderR op.info.2) = some (some (.ref f))) (hf : isFn K (.ref f) = true)
    (hsub : subIn K (.ref C) (.type T) = some false)
    (hcall : ∀ Q' : Value → Shared → Prop, Q' .notImplemented s → wpAny (model prog w) A (call (.builtin id) [a, .ref x]) Q' E s)
    (h : wpAny (model prog w) A (call (.ref f) [.ref x, a]) (W.CmpBack Q) E s) : wpAny (model prog w) A (binaryOp op a (.ref x)) Q E s := by
  have X := X₀.keeps F.keep
  obtain ⟨cd, rest, hcd, hm⟩ := ksp_first hc
  rcases hi : op.info with ⟨sym, nm'⟩
  rw [hi] at hs hr hfT sl
  dsimp only at hs hr hfT sl
  have one := ksp_try X I hr hf h
  obtain ⟨hh, g, d, tt, os⟩ := s
  have L1 : Looks (model prog w) hh (typeOf (.ref x)) (.ref C) := I.type
  have L2 : Looks (model prog w) hh (typeOf a) (.type T) := Looks.of_pure ha'
  have L3 : Looks (model prog w) hh (fillsNumberSlot (.ref C) nm') true := fills_K X hcd hm hs
  have L4 : Looks (model prog w) hh (fillsNumberSlot (.type T) nm') true := Looks.of_pure hfT
  have L5 : Looks (model prog w) hh (isSubtype (.ref C) (.type T)) false := looks_subIn X hsub
  have L7 : Looks (model prog w) hh (numberSlotInPython (.type T) nm') false := Looks.of_pure rfl
  have hne : (Value.type T == Value.ref C) = false := Bool.eq_false_iff.mpr fun q => by cases beq_iff_eq.mp q
  simp only [binaryOp, hi]
  refine wpAny_holding (wpAny_bind ?_)
  unfold binaryOp1
  refine wpAny_bind (L2.at (wpAny_bind (L1.at (wpAny_bind (L4.at ?_)))))
  simp only [hne, Bool.false_eq_true, if_false]
  have two : ∀ Q' : Option Value → Shared → Prop, Q' none ⟨hh, g, d, tt, os⟩ → wpAny (model prog w) A (tryMethod a (PySem.dunder nm') (.ref x)) Q' E ⟨hh, g, d, tt, os⟩ := fun Q' hq => by
    unfold tryMethod
    exact wpAny_bind (wpAny_callSpecial?_slot ha sl (hcall _ (wpAny_pure hq)))
  repeat ((fail_if_success (with_reducible show wpAny _ _ (tryMethod _ _ _) _ _ _)); lk)
  refine two _ ?_
  dsimp only
  repeat ((fail_if_success (with_reducible show wpAny _ _ (tryMethod _ _ _) _ _ _)); lk)
  refine wpAny_mono one (fun r s' hr' => ?_) fun _ _ e => e
  obtain ⟨v, rfl, hq⟩ := hr'
  repeat ((fail_if_success (with_reducible show wpAny _ _ (tryMethod _ _ _) _ _ _)); lk)
  exact hq
theorem mul_int_inst {k : Int} {t : Tok} {Q : Value → Shared → Prop} (F : Fr h₀ L s.heap m) (X₀ : K.In h₀) (I : InstAt s.heap x ox C od) (ho : ox.data = .plain) (hc : selfFirst K C = true)
    (hs : findIn K (.ref C) (PySem.dunder (Operator.Mult).info.2) = some (some (.ref f0))) (hr : findIn K (.ref C) (dunderR (Operator.Mult).info.2) = some (some (.ref f))) (hf : isFn K (.ref f) = true)
    (hsub : subIn K (.ref C) (.type "int") = some false)
    (h : wpAny (model prog w) A (call (.ref f) [.ref x, .int k t]) (W.CmpBack Q) E s) : wpAny (model prog w) A (binaryOp .Mult (.int k t) (.ref x)) Q E s :=
  rbin_K F X₀ I (typeIs_int s k t) rfl hc PySem.F.fills_int_mul PySem.F.slot_int_mul hs hr hf hsub
    (fun Q' hq => call_meets PySem.F.slot_int_mul (typeIs_int s k t) PySem.F.entry_int_mul (PySem.F.args_int_mul_2 _ _) (int_mul_plain k t x ox ho) ⟨I.at_, hq⟩) h
end
section
open PySem.Builtin.Math
theorem kind_hypot : builtinKind "math.hypot" = none := by decide +kernel
theorem plain_hypot : plainId "math.hypot" = true := by decide +kernel
theorem entry_hypot : entryFor table "math.hypot" = some Builtin.«math.hypot» := entryFor_of_fast (by kernel_rfl)
theorem args_hypot (a b : Value) : argsOk "math.hypot" ⟨[a, b], []⟩ := by unfold argsOk; kernel_rfl
theorem gives_hypot (x : UInt64) (t : Tok) (y : UInt64) (u : Tok) :
    Gives (Builtin.«math.hypot» ⟨[.float x t, .float y u], []⟩) (.float (vectorNorm [Float64.abs x, Float64.abs y])) :=
  .of_wp fun M A E s Q h => by obtain ⟨hp, g, d, tk, os⟩ := s; wp_walk; exact ⟨_, rfl, h⟩
theorem call_hypot {prog : Program} {w : World} {A : Around} {E : Value → Shared → Prop} {s : Shared} {x y : UInt64} {t u : Tok} {Q : Value → Shared → Prop}
    (h : Q (.float (vectorNorm [Float64.abs x, Float64.abs y]) s.toks) { s with toks := s.toks + 1 }) : wpAny (model prog w) A (call (.builtin "math.hypot") [.float x t, .float y u]) Q E s :=
  Flt.call_fn_gives kind_hypot plain_hypot entry_hypot (args_hypot _ _) (gives_hypot x t y u) h
end
end Mine

end Refl
section CT2
open PySem PySem.W PySem.Calls PyProof.Rows
set_option Elab.async false
set_option linter.unusedVariables false
namespace Mine
local macro_rules | `(tactic| walk_at $s:str) => `(tactic| k_extra $s)
abbrev ndO (dx : Addr) (mu sg : Value) : Obj := { cls := .ref 270, dict := some dx, data := .plain, slots := [some mu, some sg].toArray }
abbrev AA (d : Nat) (env : Env) (outer : List Env) (gs : Option (List Code)) (u : Nat) : Around := { handled := none, depth := d, frames := some (env :: outer), guards := gs, units := u }
theorem notOver {k : Int} (h : k.natAbs < 2 ^ 63) : ¬ Flt.Over k := by
  intro c
  have c2 : 2 ^ 1024 - 2 ^ 970 ≤ k.natAbs := c
  have : (2 : Nat) ^ 63 ≤ 2 ^ 1024 - 2 ^ 970 := by decide +kernel
  omega
section
variable {w : World} {A₀ : Around} {E : Value → Shared → Prop} {s : Shared} {L : Addr} {h₀ base : Heap} {m mg mb : Str → Option Value} {news : List (Addr × Obj)} {mean : ExcName → Option Value} {env : Env} {outer : List Env} {Q : Value → Shared → Prop}
  {p : Program} {loose : List Str} {d u : Nat} {gs : Option (List Code)} {mu sg mu2 sg2 : UInt64} {t1 t2 t3 t4 : Tok} {x dx y dy : Addr}
theorem toks_gen1 {α : Type} {M : Model} {A : Around} {t : Sem α} {Q : α → Shared → Prop} {E : Value → Shared → Prop} {h : Heap} {g : Array GenState} {d : Drawn} {X : Nat} {o : OsState} (H : ∀ tk, wpAny M A t Q E ⟨h, g, d, tk, o⟩) : wpAny M A t Q E ⟨h, g, d, X, o⟩ := H X
theorem toks_genP {α : Type} {M : Model} {A : Around} {t : Sem α} {Q : α → Shared → Prop} {E : Value → Shared → Prop} {h : Heap} {g : Array GenState} {d : Drawn} {X : Nat} {o : OsState} (hX : 0 < X) (H : ∀ tk, 0 < tk → wpAny M A t Q E ⟨h, g, d, tk, o⟩) : wpAny M A t Q E ⟨h, g, d, X, o⟩ := H X hX
local macro_rules | `(tactic| k_all) => `(tactic| assumption)
set_option maxRecDepth 100000 in
set_option maxHeartbeats 8000000 in
theorem mkND (B : Below A₀ base outer h₀) (F : Fr h₀ L s.heap m) (N : News h₀ L s.heap news) (T : Top p loose mean mg mb h₀)
    (hf : env.frame = some L) (hke : env.scope.kind = .function) (hroom : d + 5 < recursionLimit)
    (hs : (Float64.cmp (sg) 0 == some Ordering.lt) = false)
    (h : ∀ (x' dx' : Addr) h' tk, 0 < tk → (Float64.cmp (sg) 0 == some Ordering.lt) = false → Fr h₀ L h' m → News h₀ L h' ((x', ndO dx' (.float (mu) t1) (.float (sg) t2)) :: (dx', dictOf [] 0) :: news) → Q (.ref x') { s with heap := h', toks := tk }) :
    (K2 w.params).In h₀ → wpAny (model PySem.Challenge.rw_oz0057_02.row.prog w) (AA d env outer gs u) (call (.ref 270) [.float mu t1, .float sg t2] []) Q E s := by
  k_fill
  k_with_none
  k_with "execs cons" => (k_here; (first | ((with_reducible refine toks_genP (by first | assumption | exact Nat.zero_lt_succ _ | (simp only [List.length_cons, List.length_nil]; exact Nat.zero_lt_succ _) | omega) ?_); intro tk' hk') | ((with_reducible refine toks_gen1 ?_); intro tk')); (with_reducible refine wpAny_execs_cons ?_); (try dsimp only))
  k_with "execs nil" => (k_here; (first | ((with_reducible refine toks_genP (by first | assumption | exact Nat.zero_lt_succ _ | (simp only [List.length_cons, List.length_nil]; exact Nat.zero_lt_succ _) | omega) ?_); intro tk' hk') | ((with_reducible refine toks_gen1 ?_); intro tk')); (with_reducible refine wpAny_execs_nil ?_); (try dsimp only))
  k_with "call builtin:math.hypot" => (refine call_hypot ?_)
  intro X₀
  refine' call_cls (K := (K2 w.params)) (fI := 78) F X₀ N ?k4 ?k5 ?k6 ?_
  case k4 => k_is
  case k5 => k_is
  case k6 => k_is
  intro x' d' h' F' N' l1 l2
  k_lt2 l2
  have l3 : ∀ p ∈ news, p.1 ≠ x' := fun p hp => by have := ltN (l1 p hp); exact neN (by omega)
  have l4 : ∀ p ∈ news, p.1 ≠ d' := fun p hp => by have := ltN (l1 p hp); exact neN (by omega)
  refine' code_def (K := (K2 w.params)) B ?k2 ?k3 ?k4 T ?kA hf hke ?k6 ?k7 ?k8 ?k9 ?kB ?_ ?c2 ?c3 ?c4 ?c5
  case kA => exact rfl
  case k2 => k_asm
  case k3 => k_asm
  case k4 => k_asm
  case k6 => k_is
  case k7 => k_is
  case k8 => (simp only [depth_under_make]; omega)
  case k9 => first | exact BindsTo.of_eq rfl | exact binds_K (by k_in) rfl (by k_is) rfl rfl rfl
  case kB => exact locs rfl
  case c5 => decide
  case c2 => exact rfl
  case c3 => exact rfl
  case c4 => exact rfl
  intro g' L' h' FG' F' N' B' X' T'
  dsimp only
  try k_fold
  k_steps
  refine' h _ _ _ _ ?p0 hs ?fa ?fb
  case fa => assumption
  case fb => assumption
  case p0 => first | assumption | exact Nat.zero_lt_succ _ | (simp only [List.length_cons, List.length_nil]; exact Nat.zero_lt_succ _) | omega

set_option maxRecDepth 100000 in
set_option maxHeartbeats 8000000 in
theorem mkNDf (B : Below A₀ base outer h₀) (F : Fr h₀ L s.heap m) (N : News h₀ L s.heap news) (T : Top p loose mean mg mb h₀)
    (hf : env.frame = some L) (hke : env.scope.kind = .function) (hroom : d + 5 < recursionLimit)
    (hs : (Float64.cmp (sg) 0 == some Ordering.lt) = false)
    (h : ∀ (x' dx' : Addr) h' tk, 0 < tk → (∀ p ∈ news, p.1 ≠ x' ∧ p.1 ≠ dx') → (Float64.cmp (sg) 0 == some Ordering.lt) = false → Fr h₀ L h' m → News h₀ L h' ((x', ndO dx' (.float (mu) t1) (.float (sg) t2)) :: (dx', dictOf [] 0) :: news) → Q (.ref x') { s with heap := h', toks := tk }) :
    (K2 w.params).In h₀ → wpAny (model PySem.Challenge.rw_oz0057_02.row.prog w) (AA d env outer gs u) (call (.ref 270) [.float mu t1, .float sg t2] []) Q E s := by
  k_fill
  k_with_none
  k_with "execs cons" => (k_here; (first | ((with_reducible refine toks_genP (by first | assumption | exact Nat.zero_lt_succ _ | (simp only [List.length_cons, List.length_nil]; exact Nat.zero_lt_succ _) | omega) ?_); intro tk' hk') | ((with_reducible refine toks_gen1 ?_); intro tk')); (with_reducible refine wpAny_execs_cons ?_); (try dsimp only))
  k_with "execs nil" => (k_here; (first | ((with_reducible refine toks_genP (by first | assumption | exact Nat.zero_lt_succ _ | (simp only [List.length_cons, List.length_nil]; exact Nat.zero_lt_succ _) | omega) ?_); intro tk' hk') | ((with_reducible refine toks_gen1 ?_); intro tk')); (with_reducible refine wpAny_execs_nil ?_); (try dsimp only))
  k_with "call builtin:math.hypot" => (refine call_hypot ?_)
  intro X₀
  refine' call_cls (K := (K2 w.params)) (fI := 78) F X₀ N ?k4 ?k5 ?k6 ?_
  case k4 => k_is
  case k5 => k_is
  case k6 => k_is
  intro x' d' h' F' N' l1 l2
  k_lt2 l2
  have l3 : ∀ p ∈ news, p.1 ≠ x' := fun p hp => by have := ltN (l1 p hp); exact neN (by omega)
  have l4 : ∀ p ∈ news, p.1 ≠ d' := fun p hp => by have := ltN (l1 p hp); exact neN (by omega)
  refine' code_def (K := (K2 w.params)) B ?k2 ?k3 ?k4 T ?kA hf hke ?k6 ?k7 ?k8 ?k9 ?kB ?_ ?c2 ?c3 ?c4 ?c5
  case kA => exact rfl
  case k2 => k_asm
  case k3 => k_asm
  case k4 => k_asm
  case k6 => k_is
  case k7 => k_is
  case k8 => (simp only [depth_under_make]; omega)
  case k9 => first | exact BindsTo.of_eq rfl | exact binds_K (by k_in) rfl (by k_is) rfl rfl rfl
  case kB => exact locs rfl
  case c5 => decide
  case c2 => exact rfl
  case c3 => exact rfl
  case c4 => exact rfl
  intro g' L' h' FG' F' N' B' X' T'
  dsimp only
  try k_fold
  k_steps
  refine' h _ _ _ _ ?p0 (fun p hp => ⟨l3 p hp, l4 p hp⟩) hs ?fa ?fb
  case fa => assumption
  case fb => assumption
  case p0 => first | assumption | exact Nat.zero_lt_succ _ | (simp only [List.length_cons, List.length_nil]; exact Nat.zero_lt_succ _) | omega


set_option maxRecDepth 100000 in
set_option maxHeartbeats 8000000 in
theorem mul_ri {k : Int} {t : Tok}
    (B : Below A₀ base outer h₀) (F : Fr h₀ L s.heap m) (N : News h₀ L s.heap news) (T : Top p loose mean mg mb h₀)
    (hf : env.frame = some L) (hke : env.scope.kind = .function) (hroom : d + 10 < recursionLimit)
    (hx : (x, ndO dx (.float mu t1) (.float sg t2)) ∈ news) (hdx : (dx, dictOf [] 0) ∈ news) (hk : k.natAbs < 2 ^ 63)
    (hs : (Float64.cmp (Float64.mul sg (Float64.abs (Float64.ofInt k))) 0 == some Ordering.lt) = false)
    (h : ∀ (x' dx' : Addr) h' tk t1 t2, 0 < tk → 0 < t1 → 0 < t2 → (Float64.cmp (Float64.mul sg (Float64.abs (Float64.ofInt k))) 0 == some Ordering.lt) = false → Fr h₀ L h' m → News h₀ L h' ((x', ndO dx' (.float (Float64.mul mu (Float64.ofInt k)) t1) (.float (Float64.mul sg (Float64.abs (Float64.ofInt k))) t2)) :: (dx', dictOf [] 0) :: news) → Q (.ref x') { s with heap := h', toks := tk }) :
    (K2 w.params).In h₀ → wpAny (model PySem.Challenge.rw_oz0057_02.row.prog w) (AA d env outer gs u) (binaryOp .Mult (.ref x) (.int k t)) Q E s := by
  k_fill
  k_with_none
  k_with "execs cons" => (k_here; (first | ((with_reducible refine toks_genP (by first | assumption | exact Nat.zero_lt_succ _ | (simp only [List.length_cons, List.length_nil]; exact Nat.zero_lt_succ _) | omega) ?_); intro tk' hk') | ((with_reducible refine toks_gen1 ?_); intro tk')); (with_reducible refine wpAny_execs_cons ?_); (try dsimp only))
  k_with "execs nil" => (k_here; (first | ((with_reducible refine toks_genP (by first | assumption | exact Nat.zero_lt_succ _ | (simp only [List.length_cons, List.length_nil]; exact Nat.zero_lt_succ _) | omega) ?_); intro tk' hk') | ((with_reducible refine toks_gen1 ?_); intro tk')); (with_reducible refine wpAny_execs_nil ?_); (try dsimp only))
  k_with "call builtin:math.hypot" => (refine call_hypot ?_)
  k_with "call ref" => (k_here; (with_reducible show wpAny _ _ (call (Value.ref 270) [Value.float _ _, Value.float _ _] _) _ _ _); k_dflt (refine' mkND (by k_asm) (by k_asm) (by k_asm) (by k_asm) (by exact rfl) (by exact rfl) (by first | omega | (simp only [depth_under_make, depth_under_kw, depth_in1, depth_deeper, depth_caller]; omega)) (by assumption) ?_ (by k_in)); intro x' d' h' tk' hk' hs' F' N'; (try k_sweep))
  intro X₀
  have hov := notOver hk
  have hov2 : k.natAbs < 2 ^ 1024 - 2 ^ 970 := Nat.lt_of_lt_of_le hk (by decide +kernel)
  refine' ksp_binT (K := (K2 w.params)) (C := 270) F X₀ ?I ?hB ?hC ?hS ?hF ?hR ?hP ?h1 ?h2 ?hU ?_
  case hB => exact rfl
  case I => exact InstAt.of_news N hx hdx
  case hS => k_is
  case hF => k_is
  case hC => k_is
  case hR => k_is
  case hP => first | exact .inl rfl | exact .inr ⟨_, rfl⟩
  case h1 => k_is
  case h2 => k_is
  case hU => k_is
  refine wpAny_call ?_
  refine' code_def (K := (K2 w.params)) B ?k2 ?k3 ?k4 T ?kA hf hke ?k6 ?k7 ?k8 ?k9 ?kB ?_ ?c2 ?c3 ?c4 ?c5
  case kA => exact rfl
  case k2 => k_asm
  case k3 => k_asm
  case k4 => k_asm
  case k6 => k_is
  case k7 => k_is
  case k8 => (show d < _; omega)
  case k9 => first | exact BindsTo.of_eq rfl | exact binds_K (by k_in) rfl (by k_is) rfl rfl rfl
  case kB => exact locs rfl
  case c5 => decide
  case c2 => exact rfl
  case c3 => exact rfl
  case c4 => exact rfl
  intro g' L' h' FG' F' N' B' X' T'
  dsimp only
  try k_fold
  k_steps
  refine' h _ _ _ _ _ _ ?p0 ?p1 ?p2 hs ?fa ?fb
  case fa => assumption
  case fb => assumption
  case p0 => first | assumption | exact Nat.zero_lt_succ _ | (simp only [List.length_cons, List.length_nil]; exact Nat.zero_lt_succ _) | omega
  case p1 => first | assumption | exact Nat.zero_lt_succ _ | (simp only [List.length_cons, List.length_nil]; exact Nat.zero_lt_succ _) | omega
  case p2 => first | assumption | exact Nat.zero_lt_succ _ | (simp only [List.length_cons, List.length_nil]; exact Nat.zero_lt_succ _) | omega

set_option maxRecDepth 100000 in
set_option maxHeartbeats 8000000 in
theorem mul_ir {k : Int} {t : Tok}
    (B : Below A₀ base outer h₀) (F : Fr h₀ L s.heap m) (N : News h₀ L s.heap news) (T : Top p loose mean mg mb h₀)
    (hf : env.frame = some L) (hke : env.scope.kind = .function) (hroom : d + 10 < recursionLimit)
    (hx : (x, ndO dx (.float mu t1) (.float sg t2)) ∈ news) (hdx : (dx, dictOf [] 0) ∈ news) (hk : k.natAbs < 2 ^ 63)
    (hs : (Float64.cmp (Float64.mul sg (Float64.abs (Float64.ofInt k))) 0 == some Ordering.lt) = false)
    (h : ∀ (x' dx' : Addr) h' tk t1 t2, 0 < tk → 0 < t1 → 0 < t2 → (Float64.cmp (Float64.mul sg (Float64.abs (Float64.ofInt k))) 0 == some Ordering.lt) = false → Fr h₀ L h' m → News h₀ L h' ((x', ndO dx' (.float (Float64.mul mu (Float64.ofInt k)) t1) (.float (Float64.mul sg (Float64.abs (Float64.ofInt k))) t2)) :: (dx', dictOf [] 0) :: news) → Q (.ref x') { s with heap := h', toks := tk }) :
    (K2 w.params).In h₀ → wpAny (model PySem.Challenge.rw_oz0057_02.row.prog w) (AA d env outer gs u) (binaryOp .Mult (.int k t) (.ref x)) Q E s := by
  k_fill
  k_with_none
  k_with "execs cons" => (k_here; (first | ((with_reducible refine toks_genP (by first | assumption | exact Nat.zero_lt_succ _ | (simp only [List.length_cons, List.length_nil]; exact Nat.zero_lt_succ _) | omega) ?_); intro tk' hk') | ((with_reducible refine toks_gen1 ?_); intro tk')); (with_reducible refine wpAny_execs_cons ?_); (try dsimp only))
  k_with "execs nil" => (k_here; (first | ((with_reducible refine toks_genP (by first | assumption | exact Nat.zero_lt_succ _ | (simp only [List.length_cons, List.length_nil]; exact Nat.zero_lt_succ _) | omega) ?_); intro tk' hk') | ((with_reducible refine toks_gen1 ?_); intro tk')); (with_reducible refine wpAny_execs_nil ?_); (try dsimp only))
  k_with "call builtin:math.hypot" => (refine call_hypot ?_)
  k_with "call ref" => (k_here; (with_reducible show wpAny _ _ (call (Value.ref 270) [Value.float _ _, Value.float _ _] _) _ _ _); k_dflt (refine' mkND (by k_asm) (by k_asm) (by k_asm) (by k_asm) (by exact rfl) (by exact rfl) (by first | omega | (simp only [depth_under_make, depth_under_kw, depth_in1, depth_deeper, depth_caller]; omega)) (by assumption) ?_ (by k_in)); intro x' d' h' tk' hk' hs' F' N'; (try k_sweep))
  intro X₀
  have hov := notOver hk
  have hov2 : k.natAbs < 2 ^ 1024 - 2 ^ 970 := Nat.lt_of_lt_of_le hk (by decide +kernel)
  refine' mul_int_inst (K := (K2 w.params)) (C := 270) F X₀ (InstAt.of_news N hx hdx) rfl ?hC ?hS ?hR ?hF ?hU ?_
  case hC => k_is
  case hS => k_is
  case hR => k_is
  case hF => k_is
  case hU => k_is
  refine wpAny_call ?_
  refine' code_def (K := (K2 w.params)) B ?k2 ?k3 ?k4 T ?kA hf hke ?k6 ?k7 ?k8 ?k9 ?kB ?_ ?c2 ?c3 ?c4 ?c5
  case kA => exact rfl
  case k2 => k_asm
  case k3 => k_asm
  case k4 => k_asm
  case k6 => k_is
  case k7 => k_is
  case k8 => (show d < _; omega)
  case k9 => first | exact BindsTo.of_eq rfl | exact binds_K (by k_in) rfl (by k_is) rfl rfl rfl
  case kB => exact locs rfl
  case c5 => decide
  case c2 => exact rfl
  case c3 => exact rfl
  case c4 => exact rfl
  intro g' L' h' FG' F' N' B' X' T'
  dsimp only
  try k_fold
  k_steps
  refine' h _ _ _ _ _ _ ?p0 ?p1 ?p2 hs ?fa ?fb
  case fa => assumption
  case fb => assumption
  case p0 => first | assumption | exact Nat.zero_lt_succ _ | (simp only [List.length_cons, List.length_nil]; exact Nat.zero_lt_succ _) | omega
  case p1 => first | assumption | exact Nat.zero_lt_succ _ | (simp only [List.length_cons, List.length_nil]; exact Nat.zero_lt_succ _) | omega
  case p2 => first | assumption | exact Nat.zero_lt_succ _ | (simp only [List.length_cons, List.length_nil]; exact Nat.zero_lt_succ _) | omega

set_option maxRecDepth 100000 in
set_option maxHeartbeats 8000000 in
theorem div_ri {k : Int} {t : Tok}
    (B : Below A₀ base outer h₀) (F : Fr h₀ L s.heap m) (N : News h₀ L s.heap news) (T : Top p loose mean mg mb h₀)
    (hf : env.frame = some L) (hke : env.scope.kind = .function) (hroom : d + 10 < recursionLimit)
    (hx : (x, ndO dx (.float mu t1) (.float sg t2)) ∈ news) (hdx : (dx, dictOf [] 0) ∈ news) (hk : k.natAbs < 2 ^ 63) (hk0 : k ≠ 0) (hz : ¬ Float64.isZero (Float64.abs (Float64.ofInt k)) = true)
    (hs : (Float64.cmp (Float64.div sg (Float64.abs (Float64.ofInt k))) 0 == some Ordering.lt) = false)
    (h : ∀ (x' dx' : Addr) h' tk t1 t2, 0 < tk → 0 < t1 → 0 < t2 → (Float64.cmp (Float64.div sg (Float64.abs (Float64.ofInt k))) 0 == some Ordering.lt) = false → Fr h₀ L h' m → News h₀ L h' ((x', ndO dx' (.float (Float64.div mu (Float64.ofInt k)) t1) (.float (Float64.div sg (Float64.abs (Float64.ofInt k))) t2)) :: (dx', dictOf [] 0) :: news) → Q (.ref x') { s with heap := h', toks := tk }) :
    (K2 w.params).In h₀ → wpAny (model PySem.Challenge.rw_oz0057_02.row.prog w) (AA d env outer gs u) (binaryOp .Div (.ref x) (.int k t)) Q E s := by
  k_fill
  k_with_none
  k_with "execs cons" => (k_here; (first | ((with_reducible refine toks_genP (by first | assumption | exact Nat.zero_lt_succ _ | (simp only [List.length_cons, List.length_nil]; exact Nat.zero_lt_succ _) | omega) ?_); intro tk' hk') | ((with_reducible refine toks_gen1 ?_); intro tk')); (with_reducible refine wpAny_execs_cons ?_); (try dsimp only))
  k_with "execs nil" => (k_here; (first | ((with_reducible refine toks_genP (by first | assumption | exact Nat.zero_lt_succ _ | (simp only [List.length_cons, List.length_nil]; exact Nat.zero_lt_succ _) | omega) ?_); intro tk' hk') | ((with_reducible refine toks_gen1 ?_); intro tk')); (with_reducible refine wpAny_execs_nil ?_); (try dsimp only))
  k_with "call builtin:math.hypot" => (refine call_hypot ?_)
  k_with "call ref" => (k_here; (with_reducible show wpAny _ _ (call (Value.ref 270) [Value.float _ _, Value.float _ _] _) _ _ _); k_dflt (refine' mkND (by k_asm) (by k_asm) (by k_asm) (by k_asm) (by exact rfl) (by exact rfl) (by first | omega | (simp only [depth_under_make, depth_under_kw, depth_in1, depth_deeper, depth_caller]; omega)) (by assumption) ?_ (by k_in)); intro x' d' h' tk' hk' hs' F' N'; (try k_sweep))
  intro X₀
  have hov := notOver hk
  have hov2 : k.natAbs < 2 ^ 1024 - 2 ^ 970 := Nat.lt_of_lt_of_le hk (by decide +kernel)
  refine' ksp_binT (K := (K2 w.params)) (C := 270) F X₀ ?I ?hB ?hC ?hS ?hF ?hR ?hP ?h1 ?h2 ?hU ?_
  case hB => exact rfl
  case I => exact InstAt.of_news N hx hdx
  case hS => k_is
  case hF => k_is
  case hC => k_is
  case hR => k_is
  case hP => first | exact .inl rfl | exact .inr ⟨_, rfl⟩
  case h1 => k_is
  case h2 => k_is
  case hU => k_is
  refine wpAny_call ?_
  refine' code_def (K := (K2 w.params)) B ?k2 ?k3 ?k4 T ?kA hf hke ?k6 ?k7 ?k8 ?k9 ?kB ?_ ?c2 ?c3 ?c4 ?c5
  case kA => exact rfl
  case k2 => k_asm
  case k3 => k_asm
  case k4 => k_asm
  case k6 => k_is
  case k7 => k_is
  case k8 => (show d < _; omega)
  case k9 => first | exact BindsTo.of_eq rfl | exact binds_K (by k_in) rfl (by k_is) rfl rfl rfl
  case kB => exact locs rfl
  case c5 => decide
  case c2 => exact rfl
  case c3 => exact rfl
  case c4 => exact rfl
  intro g' L' h' FG' F' N' B' X' T'
  dsimp only
  try k_fold
  k_steps
  refine' h _ _ _ _ _ _ ?p0 ?p1 ?p2 hs ?fa ?fb
  case fa => assumption
  case fb => assumption
  case p0 => first | assumption | exact Nat.zero_lt_succ _ | (simp only [List.length_cons, List.length_nil]; exact Nat.zero_lt_succ _) | omega
  case p1 => first | assumption | exact Nat.zero_lt_succ _ | (simp only [List.length_cons, List.length_nil]; exact Nat.zero_lt_succ _) | omega
  case p2 => first | assumption | exact Nat.zero_lt_succ _ | (simp only [List.length_cons, List.length_nil]; exact Nat.zero_lt_succ _) | omega

set_option maxRecDepth 100000 in
set_option maxHeartbeats 8000000 in
theorem div_rf {z : UInt64} {t : Tok}
    (B : Below A₀ base outer h₀) (F : Fr h₀ L s.heap m) (N : News h₀ L s.heap news) (T : Top p loose mean mg mb h₀)
    (hf : env.frame = some L) (hke : env.scope.kind = .function) (hroom : d + 10 < recursionLimit)
    (hx : (x, ndO dx (.float mu t1) (.float sg t2)) ∈ news) (hdx : (dx, dictOf [] 0) ∈ news) (hz0 : ¬ Float64.isZero z = true) (hz : ¬ Float64.isZero (Float64.abs z) = true)
    (hs : (Float64.cmp (Float64.div sg (Float64.abs z)) 0 == some Ordering.lt) = false)
    (h : ∀ (x' dx' : Addr) h' tk t1 t2, 0 < tk → 0 < t1 → 0 < t2 → (Float64.cmp (Float64.div sg (Float64.abs z)) 0 == some Ordering.lt) = false → Fr h₀ L h' m → News h₀ L h' ((x', ndO dx' (.float (Float64.div mu z) t1) (.float (Float64.div sg (Float64.abs z)) t2)) :: (dx', dictOf [] 0) :: news) → Q (.ref x') { s with heap := h', toks := tk }) :
    (K2 w.params).In h₀ → wpAny (model PySem.Challenge.rw_oz0057_02.row.prog w) (AA d env outer gs u) (binaryOp .Div (.ref x) (.float z t)) Q E s := by
  k_fill
  k_with_none
  k_with "execs cons" => (k_here; (first | ((with_reducible refine toks_genP (by first | assumption | exact Nat.zero_lt_succ _ | (simp only [List.length_cons, List.length_nil]; exact Nat.zero_lt_succ _) | omega) ?_); intro tk' hk') | ((with_reducible refine toks_gen1 ?_); intro tk')); (with_reducible refine wpAny_execs_cons ?_); (try dsimp only))
  k_with "execs nil" => (k_here; (first | ((with_reducible refine toks_genP (by first | assumption | exact Nat.zero_lt_succ _ | (simp only [List.length_cons, List.length_nil]; exact Nat.zero_lt_succ _) | omega) ?_); intro tk' hk') | ((with_reducible refine toks_gen1 ?_); intro tk')); (with_reducible refine wpAny_execs_nil ?_); (try dsimp only))
  k_with "call builtin:math.hypot" => (refine call_hypot ?_)
  k_with "call ref" => (k_here; (with_reducible show wpAny _ _ (call (Value.ref 270) [Value.float _ _, Value.float _ _] _) _ _ _); k_dflt (refine' mkND (by k_asm) (by k_asm) (by k_asm) (by k_asm) (by exact rfl) (by exact rfl) (by first | omega | (simp only [depth_under_make, depth_under_kw, depth_in1, depth_deeper, depth_caller]; omega)) (by assumption) ?_ (by k_in)); intro x' d' h' tk' hk' hs' F' N'; (try k_sweep))
  intro X₀
  refine' ksp_binT (K := (K2 w.params)) (C := 270) F X₀ ?I ?hB ?hC ?hS ?hF ?hR ?hP ?h1 ?h2 ?hU ?_
  case hB => exact rfl
  case I => exact InstAt.of_news N hx hdx
  case hS => k_is
  case hF => k_is
  case hC => k_is
  case hR => k_is
  case hP => first | exact .inl rfl | exact .inr ⟨_, rfl⟩
  case h1 => k_is
  case h2 => k_is
  case hU => k_is
  refine wpAny_call ?_
  refine' code_def (K := (K2 w.params)) B ?k2 ?k3 ?k4 T ?kA hf hke ?k6 ?k7 ?k8 ?k9 ?kB ?_ ?c2 ?c3 ?c4 ?c5
  case kA => exact rfl
  case k2 => k_asm
  case k3 => k_asm
  case k4 => k_asm
  case k6 => k_is
  case k7 => k_is
  case k8 => (show d < _; omega)
  case k9 => first | exact BindsTo.of_eq rfl | exact binds_K (by k_in) rfl (by k_is) rfl rfl rfl
  case kB => exact locs rfl
  case c5 => decide
  case c2 => exact rfl
  case c3 => exact rfl
  case c4 => exact rfl
  intro g' L' h' FG' F' N' B' X' T'
  dsimp only
  try k_fold
  k_steps
  refine' h _ _ _ _ _ _ ?p0 ?p1 ?p2 hs ?fa ?fb
  case fa => assumption
  case fb => assumption
  case p0 => first | assumption | exact Nat.zero_lt_succ _ | (simp only [List.length_cons, List.length_nil]; exact Nat.zero_lt_succ _) | omega
  case p1 => first | assumption | exact Nat.zero_lt_succ _ | (simp only [List.length_cons, List.length_nil]; exact Nat.zero_lt_succ _) | omega
  case p2 => first | assumption | exact Nat.zero_lt_succ _ | (simp only [List.length_cons, List.length_nil]; exact Nat.zero_lt_succ _) | omega

set_option maxRecDepth 100000 in
set_option maxHeartbeats 8000000 in
theorem add_rr 
    (B : Below A₀ base outer h₀) (F : Fr h₀ L s.heap m) (N : News h₀ L s.heap news) (T : Top p loose mean mg mb h₀)
    (hf : env.frame = some L) (hke : env.scope.kind = .function) (hroom : d + 10 < recursionLimit)
    (hx : (x, ndO dx (.float mu t1) (.float sg t2)) ∈ news) (hdx : (dx, dictOf [] 0) ∈ news) (hy : (y, ndO dy (.float mu2 t3) (.float sg2 t4)) ∈ news) (hdy : (dy, dictOf [] 0) ∈ news)
    (hs : (Float64.cmp (PySem.Builtin.Math.vectorNorm [Float64.abs sg, Float64.abs sg2]) 0 == some Ordering.lt) = false)
    (h : ∀ (x' dx' : Addr) h' tk t1 t2, 0 < tk → 0 < t1 → 0 < t2 → (Float64.cmp (PySem.Builtin.Math.vectorNorm [Float64.abs sg, Float64.abs sg2]) 0 == some Ordering.lt) = false → Fr h₀ L h' m → News h₀ L h' ((x', ndO dx' (.float (Float64.add mu mu2) t1) (.float (PySem.Builtin.Math.vectorNorm [Float64.abs sg, Float64.abs sg2]) t2)) :: (dx', dictOf [] 0) :: news) → Q (.ref x') { s with heap := h', toks := tk }) :
    (K2 w.params).In h₀ → wpAny (model PySem.Challenge.rw_oz0057_02.row.prog w) (AA d env outer gs u) (binaryOp .Add (.ref x) (.ref y)) Q E s := by
  k_fill
  k_with_none
  k_with "execs cons" => (k_here; (first | ((with_reducible refine toks_genP (by first | assumption | exact Nat.zero_lt_succ _ | (simp only [List.length_cons, List.length_nil]; exact Nat.zero_lt_succ _) | omega) ?_); intro tk' hk') | ((with_reducible refine toks_gen1 ?_); intro tk')); (with_reducible refine wpAny_execs_cons ?_); (try dsimp only))
  k_with "execs nil" => (k_here; (first | ((with_reducible refine toks_genP (by first | assumption | exact Nat.zero_lt_succ _ | (simp only [List.length_cons, List.length_nil]; exact Nat.zero_lt_succ _) | omega) ?_); intro tk' hk') | ((with_reducible refine toks_gen1 ?_); intro tk')); (with_reducible refine wpAny_execs_nil ?_); (try dsimp only))
  k_with "call builtin:math.hypot" => (refine call_hypot ?_)
  k_with "call ref" => (k_here; (with_reducible show wpAny _ _ (call (Value.ref 270) [Value.float _ _, Value.float _ _] _) _ _ _); k_dflt (refine' mkND (by k_asm) (by k_asm) (by k_asm) (by k_asm) (by exact rfl) (by exact rfl) (by first | omega | (simp only [depth_under_make, depth_under_kw, depth_in1, depth_deeper, depth_caller]; omega)) (by assumption) ?_ (by k_in)); intro x' d' h' tk' hk' hs' F' N'; (try k_sweep))
  intro X₀
  refine' binop_K (K := (K2 w.params)) (C := 270) F X₀ (InstAt.of_news N hx hdx) ?hb ?hC ?hS ?hF ?_
  case hb => exact InstAt.type (InstAt.of_news N hy hdy)
  case hC => k_is
  case hS => k_is
  case hF => k_is
  refine wpAny_call ?_
  refine' code_def (K := (K2 w.params)) B ?k2 ?k3 ?k4 T ?kA hf hke ?k6 ?k7 ?k8 ?k9 ?kB ?_ ?c2 ?c3 ?c4 ?c5
  case kA => exact rfl
  case k2 => k_asm
  case k3 => k_asm
  case k4 => k_asm
  case k6 => k_is
  case k7 => k_is
  case k8 => (show d < _; omega)
  case k9 => first | exact BindsTo.of_eq rfl | exact binds_K (by k_in) rfl (by k_is) rfl rfl rfl
  case kB => exact locs rfl
  case c5 => decide
  case c2 => exact rfl
  case c3 => exact rfl
  case c4 => exact rfl
  intro g' L' h' FG' F' N' B' X' T'
  dsimp only
  try k_fold
  k_steps
  refine' h _ _ _ _ _ _ ?p0 ?p1 ?p2 hs ?fa ?fb
  case fa => assumption
  case fb => assumption
  case p0 => first | assumption | exact Nat.zero_lt_succ _ | (simp only [List.length_cons, List.length_nil]; exact Nat.zero_lt_succ _) | omega
  case p1 => first | assumption | exact Nat.zero_lt_succ _ | (simp only [List.length_cons, List.length_nil]; exact Nat.zero_lt_succ _) | omega
  case p2 => first | assumption | exact Nat.zero_lt_succ _ | (simp only [List.length_cons, List.length_nil]; exact Nat.zero_lt_succ _) | omega

set_option maxRecDepth 100000 in
set_option maxHeartbeats 8000000 in
theorem sub_rr 
    (B : Below A₀ base outer h₀) (F : Fr h₀ L s.heap m) (N : News h₀ L s.heap news) (T : Top p loose mean mg mb h₀)
    (hf : env.frame = some L) (hke : env.scope.kind = .function) (hroom : d + 10 < recursionLimit)
    (hx : (x, ndO dx (.float mu t1) (.float sg t2)) ∈ news) (hdx : (dx, dictOf [] 0) ∈ news) (hy : (y, ndO dy (.float mu2 t3) (.float sg2 t4)) ∈ news) (hdy : (dy, dictOf [] 0) ∈ news)
    (hs : (Float64.cmp (PySem.Builtin.Math.vectorNorm [Float64.abs sg, Float64.abs sg2]) 0 == some Ordering.lt) = false)
    (h : ∀ (x' dx' : Addr) h' tk t1 t2, 0 < tk → 0 < t1 → 0 < t2 → (Float64.cmp (PySem.Builtin.Math.vectorNorm [Float64.abs sg, Float64.abs sg2]) 0 == some Ordering.lt) = false → Fr h₀ L h' m → News h₀ L h' ((x', ndO dx' (.float (Float64.sub mu mu2) t1) (.float (PySem.Builtin.Math.vectorNorm [Float64.abs sg, Float64.abs sg2]) t2)) :: (dx', dictOf [] 0) :: news) → Q (.ref x') { s with heap := h', toks := tk }) :
    (K2 w.params).In h₀ → wpAny (model PySem.Challenge.rw_oz0057_02.row.prog w) (AA d env outer gs u) (binaryOp .Sub (.ref x) (.ref y)) Q E s := by
  k_fill
  k_with_none
  k_with "execs cons" => (k_here; (first | ((with_reducible refine toks_genP (by first | assumption | exact Nat.zero_lt_succ _ | (simp only [List.length_cons, List.length_nil]; exact Nat.zero_lt_succ _) | omega) ?_); intro tk' hk') | ((with_reducible refine toks_gen1 ?_); intro tk')); (with_reducible refine wpAny_execs_cons ?_); (try dsimp only))
  k_with "execs nil" => (k_here; (first | ((with_reducible refine toks_genP (by first | assumption | exact Nat.zero_lt_succ _ | (simp only [List.length_cons, List.length_nil]; exact Nat.zero_lt_succ _) | omega) ?_); intro tk' hk') | ((with_reducible refine toks_gen1 ?_); intro tk')); (with_reducible refine wpAny_execs_nil ?_); (try dsimp only))
  k_with "call builtin:math.hypot" => (refine call_hypot ?_)
  k_with "call ref" => (k_here; (with_reducible show wpAny _ _ (call (Value.ref 270) [Value.float _ _, Value.float _ _] _) _ _ _); k_dflt (refine' mkND (by k_asm) (by k_asm) (by k_asm) (by k_asm) (by exact rfl) (by exact rfl) (by first | omega | (simp only [depth_under_make, depth_under_kw, depth_in1, depth_deeper, depth_caller]; omega)) (by assumption) ?_ (by k_in)); intro x' d' h' tk' hk' hs' F' N'; (try k_sweep))
  intro X₀
  refine' binop_K (K := (K2 w.params)) (C := 270) F X₀ (InstAt.of_news N hx hdx) ?hb ?hC ?hS ?hF ?_
  case hb => exact InstAt.type (InstAt.of_news N hy hdy)
  case hC => k_is
  case hS => k_is
  case hF => k_is
  refine wpAny_call ?_
  refine' code_def (K := (K2 w.params)) B ?k2 ?k3 ?k4 T ?kA hf hke ?k6 ?k7 ?k8 ?k9 ?kB ?_ ?c2 ?c3 ?c4 ?c5
  case kA => exact rfl
  case k2 => k_asm
  case k3 => k_asm
  case k4 => k_asm
  case k6 => k_is
  case k7 => k_is
  case k8 => (show d < _; omega)
  case k9 => first | exact BindsTo.of_eq rfl | exact binds_K (by k_in) rfl (by k_is) rfl rfl rfl
  case kB => exact locs rfl
  case c5 => decide
  case c2 => exact rfl
  case c3 => exact rfl
  case c4 => exact rfl
  intro g' L' h' FG' F' N' B' X' T'
  dsimp only
  try k_fold
  k_steps
  refine' h _ _ _ _ _ _ ?p0 ?p1 ?p2 hs ?fa ?fb
  case fa => assumption
  case fb => assumption
  case p0 => first | assumption | exact Nat.zero_lt_succ _ | (simp only [List.length_cons, List.length_nil]; exact Nat.zero_lt_succ _) | omega
  case p1 => first | assumption | exact Nat.zero_lt_succ _ | (simp only [List.length_cons, List.length_nil]; exact Nat.zero_lt_succ _) | omega
  case p2 => first | assumption | exact Nat.zero_lt_succ _ | (simp only [List.length_cons, List.length_nil]; exact Nat.zero_lt_succ _) | omega

set_option maxRecDepth 100000 in
set_option maxHeartbeats 8000000 in
theorem eq_rr (B : Below A₀ base outer h₀) (F : Fr h₀ L s.heap m) (N : News h₀ L s.heap news) (T : Top p loose mean mg mb h₀)
    (hf : env.frame = some L) (hke : env.scope.kind = .function) (hroom : d + 10 < recursionLimit)
    (hx : (x, ndO dx (.float mu t1) (.float sg t2)) ∈ news) (hdx : (dx, dictOf [] 0) ∈ news) (hy : (y, ndO dy (.float mu2 t3) (.float sg2 t4)) ∈ news) (hdy : (dy, dictOf [] 0) ∈ news) (hu : u + 40 < cLine)
    (h : ∀ h' tk, 0 < tk → Fr h₀ L h' m → News h₀ L h' news → Q (.bool (Float64.cmp mu mu2 == some Ordering.eq && Float64.cmp sg sg2 == some Ordering.eq)) { s with heap := h', toks := tk }) :
    (K2 w.params).In h₀ → wpAny (model PySem.Challenge.rw_oz0057_02.row.prog w) (AA d env outer gs u) (compareOp .Eq (.ref x) (.ref y)) Q E s := by
  k_fill
  k_with_none
  k_with "execs cons" => (k_here; (first | ((with_reducible refine toks_genP (by first | assumption | exact Nat.zero_lt_succ _ | (simp only [List.length_cons, List.length_nil]; exact Nat.zero_lt_succ _) | omega) ?_); intro tk' hk') | ((with_reducible refine toks_gen1 ?_); intro tk')); (with_reducible refine wpAny_execs_cons ?_); (try dsimp only))
  k_with "execs nil" => (k_here; (first | ((with_reducible refine toks_genP (by first | assumption | exact Nat.zero_lt_succ _ | (simp only [List.length_cons, List.length_nil]; exact Nat.zero_lt_succ _) | omega) ?_); intro tk' hk') | ((with_reducible refine toks_gen1 ?_); intro tk')); (with_reducible refine wpAny_execs_nil ?_); (try dsimp only))
  k_with "call builtin:math.hypot" => (refine call_hypot ?_)
  k_with "call ref" => (k_here; (with_reducible show wpAny _ _ (call (Value.ref 270) [Value.float _ _, Value.float _ _] _) _ _ _); k_dflt (refine' mkND (by k_asm) (by k_asm) (by k_asm) (by k_asm) (by exact rfl) (by exact rfl) (by first | omega | (simp only [depth_under_make, depth_under_kw, depth_in1, depth_deeper, depth_caller]; omega)) (by assumption) ?_ (by k_in)); intro x' d' h' tk' hk' hs' F' N'; (try k_sweep))
  intro X₀
  refine cmp_ofEq ?_
  refine' cmp_K (K := (K2 w.params)) (C := 270) ?hu F X₀ (InstAt.of_news N hx hdx) (InstAt.type (InstAt.of_news N hy hdy)) ?hn ?hS ?hF ?_
  case hu => (show u < _; omega)
  case hn => k_is
  case hS => k_is
  case hF => k_is
  refine wpAny_call ?_
  refine' code_def (K := (K2 w.params)) B ?k2 ?k3 ?k4 T ?kA hf hke ?k6 ?k7 ?k8 ?k9 ?kB ?_ ?c2 ?c3 ?c4 ?c5
  case kA => exact rfl
  case k2 => k_asm
  case k3 => k_asm
  case k4 => k_asm
  case k6 => k_is
  case k7 => k_is
  case k8 => (show d < _; omega)
  case k9 => first | exact BindsTo.of_eq rfl | exact binds_K (by k_in) rfl (by k_is) rfl rfl rfl
  case kB => exact locs rfl
  case c5 => decide
  case c2 => exact rfl
  case c3 => exact rfl
  case c4 => exact rfl
  intro g' L' h' FG' F' N' B' X' T'
  dsimp only
  try k_fold
  k_steps
  · rename (Float64.cmp mu mu2 == some Ordering.eq) = true => he
    rw [he, Bool.true_and] at h
    refine' h _ _ ?p0 ?fa ?fb
    case fa => assumption
    case fb => assumption
    case p0 => first | assumption | exact Nat.zero_lt_succ _ | (simp only [List.length_cons, List.length_nil]; exact Nat.zero_lt_succ _) | omega
  · rename (Float64.cmp mu mu2 == some Ordering.eq) = false => he
    rw [he]
    rw [he, Bool.false_and] at h
    refine' h _ _ ?p0 ?fa ?fb
    case fa => assumption
    case fb => assumption
    case p0 => first | assumption | exact Nat.zero_lt_succ _ | (simp only [List.length_cons, List.length_nil]; exact Nat.zero_lt_succ _) | omega

set_option maxRecDepth 100000 in
set_option maxHeartbeats 8000000 in
theorem near_c (B : Below A₀ base outer h₀) (F : Fr h₀ L s.heap m) (N : News h₀ L s.heap news) (T : Top p loose mean mg mb h₀)
    (hf : env.frame = some L) (hke : env.scope.kind = .function) (hroom : d + 10 < recursionLimit) {z b : Int} {t tb : Tok} (hb : 0 < b)
    (h : ∀ v h' tk t', 0 < tk → -b < v → v < b → Fr h₀ L h' m → News h₀ L h' news → Q (.int v t') { s with heap := h', toks := tk }) :
    (K2 w.params).In h₀ → wpAny (model PySem.Challenge.rw_oz0057_02.row.prog w) (AA d env outer gs u) (call (.ref 281) [.int z t, .int b tb] []) Q E s := by
  k_fill
  k_with_none
  k_with "execs cons" => (k_here; (first | ((with_reducible refine toks_genP (by first | assumption | exact Nat.zero_lt_succ _ | (simp only [List.length_cons, List.length_nil]; exact Nat.zero_lt_succ _) | omega) ?_); intro tk' hk') | ((with_reducible refine toks_gen1 ?_); intro tk')); (with_reducible refine wpAny_execs_cons ?_); (try dsimp only))
  k_with "execs nil" => (k_here; (first | ((with_reducible refine toks_genP (by first | assumption | exact Nat.zero_lt_succ _ | (simp only [List.length_cons, List.length_nil]; exact Nat.zero_lt_succ _) | omega) ?_); intro tk' hk') | ((with_reducible refine toks_gen1 ?_); intro tk')); (with_reducible refine wpAny_execs_nil ?_); (try dsimp only))
  k_with "call builtin:math.hypot" => (refine call_hypot ?_)
  k_with "call ref" => (k_here; (with_reducible show wpAny _ _ (call (Value.ref 270) [Value.float _ _, Value.float _ _] _) _ _ _); k_dflt (refine' mkND (by k_asm) (by k_asm) (by k_asm) (by k_asm) (by exact rfl) (by exact rfl) (by first | omega | (simp only [depth_under_make, depth_under_kw, depth_in1, depth_deeper, depth_caller]; omega)) (by assumption) ?_ (by k_in)); intro x' d' h' tk' hk' hs' F' N'; (try k_sweep))
  intro X₀
  refine wpAny_call ?_
  have f1 := Int.fmod_nonneg_of_pos z hb
  have f2 := Int.fmod_lt_of_pos z hb
  refine' code_def (K := (K2 w.params)) B ?k2 ?k3 ?k4 T ?kA hf hke ?k6 ?k7 ?k8 ?k9 ?kB ?_ ?c2 ?c3 ?c4 ?c5
  case kA => exact rfl
  case k2 => k_asm
  case k3 => k_asm
  case k4 => k_asm
  case k6 => k_is
  case k7 => k_is
  case k8 => (show d < _; omega)
  case k9 => first | exact BindsTo.of_eq rfl | exact binds_K (by k_in) rfl (by k_is) rfl rfl rfl
  case kB => exact locs rfl
  case c5 => decide
  case c2 => exact rfl
  case c3 => exact rfl
  case c4 => exact rfl
  intro g' L' h' FG' F' N' B' X' T'
  dsimp only
  try k_fold
  k_steps
  all_goals (refine' h _ _ _ _ ?p0 ?fc ?fd ?fa ?fb; (case fa => assumption); (case fb => assumption); (case fc => omega); (case fd => omega); (case p0 => first | assumption | exact Nat.zero_lt_succ _ | (simp only [List.length_cons, List.length_nil]; exact Nat.zero_lt_succ _) | omega))

theorem get_propS {prog : Program} {w : World} {A : Around} {E : Value → Shared → Prop} {s : Shared} {K : Frag} {h₀ : Heap} {L x C : Addr} {m : Str → Option Value} {ox : Obj} {name : Str} {expr : Bool} {Q : Value → Shared → Prop} {p fget : Addr} {rest : List Value} {od : Obj}
    (F : Fr h₀ L s.heap m) (X₀ : K.In h₀) (I : InstAt s.heap x ox C (some od)) (hg : plainGet K C name = true) (hc : isClsIn K C = true)
    (ha : findIn K (.ref C) name = some (some (.ref p))) (hn : specialIn K (.ref p) "__get__" = some (some (.builtin "property.__get__"))) (ht : takesIn K (.ref p) = some true) (hp : recIn K p "property" = some (.ref fget :: rest))
    (h : codeAny (model prog w) A.in1 (.call (.ref fget) ⟨[.ref x], []⟩) (fun r s' => match r with | .ok (.ret v) => wpAny (model prog w) A (handedOut v) Q E s' | .ok _ => False | .error e => wpAny (model prog w) A (noteIf true (.ref x) (.str name s.toks) e) (fun _ s'' => E e s'') E s') { s with toks := s.toks + 1 }) :
    wpAny (model prog w) A (getAttr (.ref x) name expr) Q E s :=
  get_bind (X₀.keeps F.keep) I (plainGet_of hg).1 (findObj_data hc ha hn ht) (plainGet_of hg).2 (wpAny_call (prop_get (s := { s with toks := s.toks + 1 }) (X₀.keeps F.keep) hp h))
set_option maxRecDepth 100000 in
set_option maxHeartbeats 8000000 in
theorem mean_c {ex : Bool} (B : Below A₀ base outer h₀) (F : Fr h₀ L s.heap m) (N : News h₀ L s.heap news) (T : Top p loose mean mg mb h₀)
    (hf : env.frame = some L) (hke : env.scope.kind = .function) (hroom : d + 10 < recursionLimit)
    (hx : (x, ndO dx (.float mu t1) (.float sg t2)) ∈ news) (hdx : (dx, dictOf [] 0) ∈ news)
    (h : ∀ h' tk, 0 < tk → Fr h₀ L h' m → News h₀ L h' news → Q (.float mu t1) { s with heap := h', toks := tk }) :
    (K2 w.params).In h₀ → wpAny (model PySem.Challenge.rw_oz0057_02.row.prog w) (AA d env outer gs u) (getAttr (.ref x) (Str.ofString "mean") ex) Q E s := by
  k_fill
  k_with_none
  k_with "execs cons" => (k_here; (first | ((with_reducible refine toks_genP (by first | assumption | exact Nat.zero_lt_succ _ | (simp only [List.length_cons, List.length_nil]; exact Nat.zero_lt_succ _) | omega) ?_); intro tk' hk') | ((with_reducible refine toks_gen1 ?_); intro tk')); (with_reducible refine wpAny_execs_cons ?_); (try dsimp only))
  k_with "execs nil" => (k_here; (first | ((with_reducible refine toks_genP (by first | assumption | exact Nat.zero_lt_succ _ | (simp only [List.length_cons, List.length_nil]; exact Nat.zero_lt_succ _) | omega) ?_); intro tk' hk') | ((with_reducible refine toks_gen1 ?_); intro tk')); (with_reducible refine wpAny_execs_nil ?_); (try dsimp only))
  k_with "call builtin:math.hypot" => (refine call_hypot ?_)
  k_with "call ref" => (k_here; (with_reducible show wpAny _ _ (call (Value.ref 270) [Value.float _ _, Value.float _ _] _) _ _ _); k_dflt (refine' mkND (by k_asm) (by k_asm) (by k_asm) (by k_asm) (by exact rfl) (by exact rfl) (by first | omega | (simp only [depth_under_make, depth_under_kw, depth_in1, depth_deeper, depth_caller]; omega)) (by assumption) ?_ (by k_in)); intro x' d' h' tk' hk' hs' F' N'; (try k_sweep))
  intro X₀
  refine' get_propS (K := (K2 w.params)) (C := 270) F X₀ (InstAt.of_news N hx hdx) ?hg ?hh ?ha ?hn ?ht ?hp ?_
  case hg => k_is
  case hh => k_is
  case ha => k_is
  case hn => k_is
  case ht => k_is
  case hp => k_is
  refine' code_def (K := (K2 w.params)) B ?k2 ?k3 ?k4 T ?kA hf hke ?k6 ?k7 ?k8 ?k9 ?kB ?_ ?c2 ?c3 ?c4 ?c5
  case kA => exact rfl
  case k2 => k_asm
  case k3 => k_asm
  case k4 => k_asm
  case k6 => k_is
  case k7 => k_is
  case k8 => (simp only [depth_in1]; show d < _; omega)
  case k9 => first | exact BindsTo.of_eq rfl | exact binds_K (by k_in) rfl (by k_is) rfl rfl rfl
  case kB => exact locs rfl
  case c5 => decide
  case c2 => exact rfl
  case c3 => exact rfl
  case c4 => exact rfl
  intro g' L' h' FG' F' N' B' X' T'
  dsimp only
  try k_fold
  k_steps
  refine' h _ _ ?p0 ?fa ?fb
  case fa => assumption
  case fb => assumption
  case p0 => first | assumption | exact Nat.zero_lt_succ _ | (simp only [List.length_cons, List.length_nil]; exact Nat.zero_lt_succ _) | omega

set_option maxRecDepth 100000 in
set_option maxHeartbeats 8000000 in
theorem stdev_c {ex : Bool} (B : Below A₀ base outer h₀) (F : Fr h₀ L s.heap m) (N : News h₀ L s.heap news) (T : Top p loose mean mg mb h₀)
    (hf : env.frame = some L) (hke : env.scope.kind = .function) (hroom : d + 10 < recursionLimit)
    (hx : (x, ndO dx (.float mu t1) (.float sg t2)) ∈ news) (hdx : (dx, dictOf [] 0) ∈ news)
    (h : ∀ h' tk, 0 < tk → Fr h₀ L h' m → News h₀ L h' news → Q (.float sg t2) { s with heap := h', toks := tk }) :
    (K2 w.params).In h₀ → wpAny (model PySem.Challenge.rw_oz0057_02.row.prog w) (AA d env outer gs u) (getAttr (.ref x) (Str.ofString "stdev") ex) Q E s := by
  k_fill
  k_with_none
  k_with "execs cons" => (k_here; (first | ((with_reducible refine toks_genP (by first | assumption | exact Nat.zero_lt_succ _ | (simp only [List.length_cons, List.length_nil]; exact Nat.zero_lt_succ _) | omega) ?_); intro tk' hk') | ((with_reducible refine toks_gen1 ?_); intro tk')); (with_reducible refine wpAny_execs_cons ?_); (try dsimp only))
  k_with "execs nil" => (k_here; (first | ((with_reducible refine toks_genP (by first | assumption | exact Nat.zero_lt_succ _ | (simp only [List.length_cons, List.length_nil]; exact Nat.zero_lt_succ _) | omega) ?_); intro tk' hk') | ((with_reducible refine toks_gen1 ?_); intro tk')); (with_reducible refine wpAny_execs_nil ?_); (try dsimp only))
  k_with "call builtin:math.hypot" => (refine call_hypot ?_)
  k_with "call ref" => (k_here; (with_reducible show wpAny _ _ (call (Value.ref 270) [Value.float _ _, Value.float _ _] _) _ _ _); k_dflt (refine' mkND (by k_asm) (by k_asm) (by k_asm) (by k_asm) (by exact rfl) (by exact rfl) (by first | omega | (simp only [depth_under_make, depth_under_kw, depth_in1, depth_deeper, depth_caller]; omega)) (by assumption) ?_ (by k_in)); intro x' d' h' tk' hk' hs' F' N'; (try k_sweep))
  intro X₀
  refine' get_propS (K := (K2 w.params)) (C := 270) F X₀ (InstAt.of_news N hx hdx) ?hg ?hh ?ha ?hn ?ht ?hp ?_
  case hg => k_is
  case hh => k_is
  case ha => k_is
  case hn => k_is
  case ht => k_is
  case hp => k_is
  refine' code_def (K := (K2 w.params)) B ?k2 ?k3 ?k4 T ?kA hf hke ?k6 ?k7 ?k8 ?k9 ?kB ?_ ?c2 ?c3 ?c4 ?c5
  case kA => exact rfl
  case k2 => k_asm
  case k3 => k_asm
  case k4 => k_asm
  case k6 => k_is
  case k7 => k_is
  case k8 => (simp only [depth_in1]; show d < _; omega)
  case k9 => first | exact BindsTo.of_eq rfl | exact binds_K (by k_in) rfl (by k_is) rfl rfl rfl
  case kB => exact locs rfl
  case c5 => decide
  case c2 => exact rfl
  case c3 => exact rfl
  case c4 => exact rfl
  intro g' L' h' FG' F' N' B' X' T'
  dsimp only
  try k_fold
  k_steps
  refine' h _ _ ?p0 ?fa ?fb
  case fa => assumption
  case fb => assumption
  case p0 => first | assumption | exact Nat.zero_lt_succ _ | (simp only [List.length_cons, List.length_nil]; exact Nat.zero_lt_succ _) | omega

end
end Mine


end CT2
section Loops
open PySem PySem.W PySem.Calls PyProof.Rows PySem.Spec
set_option Elab.async false
set_option linter.unusedVariables false
namespace Mine
section
variable {prog : Program} {w : World} {A : Around} {E : Value → Shared → Prop} {s : Shared} {env : Env} {h₀ : Heap} {target : Expr} {body : List Stmt} {Q : Flow → Shared → Prop}

/-- what a turn must leave: the invariant J, the iterator's object still there -/
def TEnd (h₀ : Heap) (L : Addr) (J : (Str → Option Value) → List (Addr × Obj) → Prop) (I : Addr) (oI : Obj) (s₁ : Shared) (s₂ : Shared) : Prop :=
  ∃ h' tk m' news' nx, s₂ = { s₁ with heap := h', toks := tk } ∧ Fr h₀ L h' m' ∧ News h₀ L h' news' ∧ (I, oI) ∈ news' ∧ (∀ p ∈ nx, p ∈ news') ∧ (∀ p ∈ nx, p.1 ≠ I) ∧ J m' nx
def TPost (h₀ : Heap) (L : Addr) (J : (Str → Option Value) → List (Addr × Obj) → Prop) (I : Addr) (oI : Obj) (s₁ : Shared) (Q : Flow → Shared → Prop) (f : Flow) (s₂ : Shared) : Prop :=
  match f with
  | .ret v => Q (.ret v) s₂
  | .brk => Q .next s₂
  | _ => TEnd h₀ L J I oI s₁ s₂
theorem TEnd.intro {L : Addr} {J : (Str → Option Value) → List (Addr × Obj) → Prop} {I : Addr} {oI : Obj} {s₁ : Shared} {h' : Heap} {tk : Nat} {m' : Str → Option Value} {news' nx : List (Addr × Obj)}
    (F : Fr h₀ L h' m') (N : News h₀ L h' news') (hI : (I, oI) ∈ news') (hn : ∀ p ∈ nx, p ∈ news') (ho : ∀ p ∈ nx, p.1 ≠ I) (hj : J m' nx) : TEnd h₀ L J I oI s₁ { s₁ with heap := h', toks := tk } :=
  ⟨h', tk, m', news', nx, rfl, F, N, hI, hn, ho, hj⟩

theorem news_sub {h₀ h : Heap} {L : Addr} {l l' : List (Addr × Obj)} (N : News h₀ L h l) (hs : ∀ p ∈ l', p ∈ l) : News h₀ L h l' := fun p hp => N p (hs p hp)

/-- the plain invariant: the names of `stored` forgotten, all else as it was, the ledger as it was -/
def Still (stored : List Str) (m₀ : Str → Option Value) (news : List (Addr × Obj)) (m : Str → Option Value) (nx : List (Addr × Obj)) : Prop :=
  nx = news ∧ ∀ y, stored.contains y = false → m y = m₀ y
/-- the outer loop over range(len(row)): the row's list and one cell stand in the ledger, the name row is kept, all other names are forgotten -/
def RowJ (rn : Str) (D : Addr) (o1 : Obj) (c : Addr) (m : Str → Option Value) (nx : List (Addr × Obj)) : Prop :=
  ∃ (u : Str → Option Value) (oc : Obj) (v : Option Value), m = (fun y => if y = rn then some (.ref D) else u y) ∧ nx = [(D, o1), (c, oc)] ∧ oc.data = .cell v
end
end Mine
namespace Mine
open PyProof.Rows.LCg
def SrcT (ax : Addr) (its : Array Value) (news : List (Addr × Obj)) : Prop := ∃ o, (ax, o) ∈ news ∧ o.cls = .type "tuple" ∧ ∃ n, o.data = .seq its n
section
variable {prog : Program} {w : World} {A : Around} {E : Value → Shared → Prop} {s : Shared} {env : Env} {h₀ : Heap} {L : Addr} {m : Str → Option Value}
def CompSrcT (prog : Program) (w : World) (A : Around) (h₀ : Heap) (L : Addr) (m : Str → Option Value) (env : Env) (elt : PySem.Expr) (x : Str) (scope : Scope) (cl : List (Str × Addr)) (Fin : Shared → List Value → List (Addr × Obj) → Prop) (xv : Value) (s₁ : Shared) : Prop :=
  ∃ ax its news, xv = .ref ax ∧ A.handled = none ∧ Fr h₀ L s₁.heap m ∧ News h₀ L s₁.heap news ∧ SrcT ax its news ∧ its.size ≤ sizeLine ∧
    ∀ s₂ : Shared, (∃ h, s₂ = { s₁ with heap := h }) → CompRest prog w A h₀ L m env elt x scope cl s₂ (SrcT ax its) (fun i v => its[i]? = some v) (Fin s₂) its.size 0 [] news
end
end Mine
namespace Mine
def keepB : List Bool → List (Addr × Obj) → List (Addr × Obj)
  | true :: bs, p :: r => p :: keepB bs r
  | false :: bs, _ :: r => keepB bs r
  | _, _ => []
theorem keepB_sub : ∀ (bs : List Bool) (l : List (Addr × Obj)), ∀ p ∈ keepB bs l, p ∈ l
  | true :: bs, q :: r, p, h => by
    simp only [keepB, List.mem_cons] at h ⊢
    rcases h with h | h
    · exact .inl h
    · exact .inr (keepB_sub bs r p h)
  | false :: bs, q :: r, p, h => by
    simp only [keepB, List.mem_cons] at h ⊢
    exact .inr (keepB_sub bs r p h)
  | true :: _, [], _, h => by simp [keepB] at h
  | false :: _, [], _, h => by simp [keepB] at h
  | [], _, _, h => by simp [keepB] at h
theorem news_keep {h₀ h : Heap} {L : Addr} {l : List (Addr × Obj)} (N : News h₀ L h l) (bs : List Bool) : News h₀ L h (keepB bs l) := news_sub N (keepB_sub bs l)
abbrev tupO (v1 v2 : Value) : Obj := { cls := .type "tuple", data := .seq [v1, v2].toArray }
def PairAt (news : List (Addr × Obj)) (P : Int → Int → Prop) (v : Value) : Prop := ∃ (T : Addr) (a b : Int) (ta tb : Tok), v = .ref T ∧ (T, tupO (.int a ta) (.int b tb)) ∈ news ∧ P a b
def IntAt (P : Int → Prop) (v : Value) : Prop := ∃ a t, v = .int a t ∧ P a
end Mine
namespace Mine
end Mine

end Loops
section FL
open PySem PySem.W PySem.Calls PyProof.Rows
open PySem.Builtin.Math (vectorNorm)
set_option linter.unusedVariables false
namespace Mine
open PySem.Float64 (V Right dist infMag pack decode val sgn)

def Fv (x : UInt64) (v : Int) : Prop := ∃ s m e, Float64.decode x = .fin s m e ∧ Float64.val x = v
def Dy (x : UInt64) (n : Int) (k : Nat) : Prop := Fv x (n * 2 ^ k)
abbrev NN (x : UInt64) : Prop := (Float64.cmp x 0 == some Ordering.lt) = false

theorem repr_V : ∀ (j q : Nat), q < 2 ^ 53 → j ≤ 2045 → ∃ t, t < infMag ∧ V t = q * 2 ^ j
  | 0, q, hq, _ => by
    refine ⟨q, by unfold infMag; omega, ?_⟩
    have := Float64.V_at (k := 0) (q := q) (by omega) (.inr rfl)
    simpa using this
  | j + 1, q, hq, hj => by
    by_cases h : 2 ^ 52 ≤ q
    · refine ⟨(j + 1) * 2 ^ 52 + q, ?_, Float64.V_at (by omega) (.inl h)⟩
      unfold infMag
      have : (j + 1) * 2 ^ 52 ≤ 2045 * 2 ^ 52 := Nat.mul_le_mul_right _ hj
      omega
    · obtain ⟨t, ht, hV⟩ := repr_V j (2 * q) (by omega) (by omega)
      refine ⟨t, ht, ?_⟩
      have e3 : (2 : Nat) ^ (j + 1) = 2 ^ j * 2 := Nat.pow_succ _ _
      rw [hV, e3]
      generalize (2 : Nat) ^ j = z
      rw [Nat.mul_comm z 2, ← Nat.mul_assoc, Nat.mul_comm 2 q]
theorem repr_V' (j q : Nat) (hq : q ≤ 2 ^ 53) (hj : j ≤ 2044) : ∃ t, t < infMag ∧ V t = q * 2 ^ j := by
  by_cases h : q < 2 ^ 53
  · exact repr_V j q h (by omega)
  · have e : q = 2 ^ 53 := by omega
    obtain ⟨t, ht, hV⟩ := repr_V (j + 1) (2 ^ 52) (by decide) (by omega)
    refine ⟨t, ht, ?_⟩
    have e3 : (2 : Nat) ^ (j + 1) = 2 ^ j * 2 := Nat.pow_succ _ _
    rw [hV, e, e3]
    generalize (2 : Nat) ^ j = z
    omega
theorem V_lt_top {q j : Nat} (hq : q ≤ 2 ^ 53 - 1) (hj : j ≤ 2045) : q * 2 ^ j ≤ (2 ^ 53 - 1) * 2 ^ 2045 := Nat.mul_le_mul hq (Nat.pow_le_pow_right (by decide) hj)
theorem not_over {D W q j : Nat} (hD : 0 < D) (hW : W ≤ D * (q * 2 ^ j)) (hq : q ≤ 2 ^ 53 - 1) (hj : j ≤ 2045) : ¬ D * ((2 ^ 54 - 1) * 2 ^ 2045) ≤ 2 * W := by
  intro h
  have h1 := V_lt_top hq hj
  have h2 : D * (q * 2 ^ j) ≤ D * ((2 ^ 53 - 1) * 2 ^ 2045) := Nat.mul_le_mul_left D h1
  have h3 : (0 : Nat) < 2 ^ 2045 := Nat.two_pow_pos _
  have h4 : D * ((2 ^ 54 - 1) * 2 ^ 2045) = 2 * (D * ((2 ^ 53 - 1) * 2 ^ 2045)) + D * 2 ^ 2045 := by
    generalize (2 : Nat) ^ 2045 = Z
    have : (2 ^ 54 - 1) * Z = 2 * ((2 ^ 53 - 1) * Z) + Z := by omega
    rw [this, Nat.mul_add, Nat.mul_left_comm]
  have h5 : 0 < D * 2 ^ 2045 := Nat.mul_pos hD h3
  omega
theorem right_exact {r : UInt64} {neg : Bool} {W D q j : Nat} (h : Right r neg W D) (hD : 0 < D) (hW : W = D * (q * 2 ^ j)) (hq : q < 2 ^ 53) (hj : j ≤ 2045) :
    ∃ t, r = pack neg t ∧ t < infMag ∧ V t = q * 2 ^ j := by
  obtain ⟨t, rfl, ht, hov, hn⟩ := h
  obtain ⟨t0, ht0, hV0⟩ := repr_V j q hq hj
  have hlt : t < infMag := by
    refine Nat.lt_of_le_of_ne ht fun e => not_over (q := q) (j := j) hD (Nat.le_of_eq hW) (by omega) hj (hov.mp e)
  refine ⟨t, rfl, hlt, ?_⟩
  have h1 := (hn hlt t0).1
  rw [hV0, hW] at h1
  have h2 : dist (D * (q * 2 ^ j)) (D * (q * 2 ^ j)) = 0 := by unfold dist; omega
  rw [h2] at h1
  unfold dist at h1
  exact Nat.eq_of_mul_eq_mul_left hD (by omega)
theorem right_err {r : UInt64} {neg : Bool} {W D P : Nat} (h : Right r neg W D) (hD : 0 < D) (hP : 53 ≤ P) (hP2 : P ≤ 2097) (hW : W ≤ D * 2 ^ P) :
    ∃ t, r = pack neg t ∧ t < infMag ∧ 2 * dist W (D * V t) ≤ D * 2 ^ (P - 53) := by
  obtain ⟨t, rfl, ht, hov, hn⟩ := h
  obtain ⟨j, hj⟩ : ∃ j, P = 53 + j := ⟨P - 53, by omega⟩
  subst hj
  have e2 : 53 + j - 53 = j := by omega
  rw [e2]
  rw [Nat.pow_add] at hW
  have hlt : t < infMag := by
    refine Nat.lt_of_le_of_ne ht fun e => ?_
    refine not_over (W := W) (q := 2 ^ 52) (j := j + 1) hD ?_ (by decide) (by omega) (hov.mp e)
    refine Nat.le_trans hW (Nat.le_of_eq ?_)
    have e3 : (2 : Nat) ^ (j + 1) = 2 ^ j * 2 := Nat.pow_succ _ _
    rw [e3]
    generalize (2 : Nat) ^ j = z
    congr 1
    omega
  refine ⟨t, rfl, hlt, ?_⟩
  have hN : 0 < D * 2 ^ j := Nat.mul_pos hD (Nat.two_pow_pos j)
  have hdm := Nat.div_add_mod W (D * 2 ^ j)
  have hmod := Nat.mod_lt W hN
  have hq : W / (D * 2 ^ j) ≤ 2 ^ 53 := by
    refine Nat.div_le_of_le_mul ?_
    refine Nat.le_trans hW (Nat.le_of_eq ?_)
    ac_rfl
  generalize hQ : W / (D * 2 ^ j) = Q at *
  generalize hR : W % (D * 2 ^ j) = R at *
  have hDQ : D * (Q * 2 ^ j) = D * 2 ^ j * Q := by ac_rfl
  by_cases hr : 2 * R ≤ D * 2 ^ j
  · obtain ⟨t0, ht0, hV0⟩ := repr_V' j Q hq (by omega)
    have h1 := (hn hlt t0).1
    rw [hV0, hDQ] at h1
    unfold dist at *
    omega
  · have hQ2 : Q + 1 ≤ 2 ^ 53 := by
      rcases Nat.lt_or_ge Q (2 ^ 53) with h | h
      · omega
      · have : Q = 2 ^ 53 := by omega
        subst this
        have : D * 2 ^ j * 2 ^ 53 = D * (2 ^ 53 * 2 ^ j) := by ac_rfl
        omega
    obtain ⟨t0, ht0, hV0⟩ := repr_V' j (Q + 1) hQ2 (by omega)
    have h1 := (hn hlt t0).1
    have hDQ1 : D * ((Q + 1) * 2 ^ j) = D * 2 ^ j * Q + D * 2 ^ j := by rw [Nat.add_mul, Nat.one_mul, Nat.mul_add, hDQ]
    rw [hV0, hDQ1] at h1
    unfold dist at *
    omega
theorem fv_pack (neg : Bool) {t : Nat} (h : t < infMag) : Fv (pack neg t) (sgn neg (V t)) := by
  obtain ⟨m, e, hd, _⟩ := Float64.decode_pack neg h
  exact ⟨_, _, _, hd, Float64.val_pack neg h⟩
theorem fv_zero (b : Bool) : Fv (Float64.zero b) 0 := by
  have := fv_pack b (t := 0) (by decide)
  have e : sgn b (V 0) = 0 := by cases b <;> decide
  rw [e] at this
  exact this
theorem fv_zero' : Fv 0 0 := fv_zero false
theorem sgn_eq (neg : Bool) (n : Nat) : sgn neg n = if neg then -(n : Int) else n := by cases neg <;> rfl
theorem fv_form {x : UInt64} {v : Int} (h : Fv x v) : ∃ q k, v.natAbs = q * 2 ^ k ∧ q < 2 ^ 53 ∧ k ≤ 2045 := by
  obtain ⟨s, m, e, hd, rfl⟩ := h
  have := Float64.decode_le hd
  exact ⟨m, (e + 1074).toNat, Float64.val_natAbs hd, this.1, by omega⟩
theorem fv_uniq {x : UInt64} {v w : Int} (h : Fv x v) (h' : Fv x w) : v = w := by
  obtain ⟨_, _, _, _, rfl⟩ := h
  obtain ⟨_, _, _, _, rfl⟩ := h'
  rfl
theorem dist_sgn {w : Int} {A : Nat} : (sgn (decide (w < 0)) A - w).natAbs = dist w.natAbs A := by
  rw [sgn_eq]
  unfold dist
  by_cases hn : w < 0
  · rw [decide_eq_true hn, if_pos rfl]; omega
  · rw [decide_eq_false hn, if_neg (by decide)]; omega
theorem dist_sgn2 {b : Bool} {A B : Nat} : (sgn b A - sgn b B).natAbs = dist B A := by
  rw [sgn_eq, sgn_eq]
  unfold dist
  split <;> omega
theorem add_exact {x y : UInt64} {a b : Int} {q j : Nat} (hx : Fv x a) (hy : Fv y b) (hs : (a + b).natAbs = q * 2 ^ j) (hq : q < 2 ^ 53) (hj : j ≤ 2045) : Fv (Float64.add x y) (a + b) := by
  obtain ⟨s, m, e, hd, rfl⟩ := hx
  obtain ⟨s', m', e', hd', rfl⟩ := hy
  obtain ⟨h0, h1⟩ := Float64.add_right hd hd'
  by_cases hz : val x + val y = 0
  · rw [h0 hz, hz]; exact fv_zero _
  · obtain ⟨t, ht, hlt, hV⟩ := right_exact (h1 hz) (by decide) (by rw [hs, Nat.one_mul]) hq hj
    rw [ht]
    have := fv_pack (decide (val x + val y < 0)) hlt
    rw [hV, ← hs] at this
    have e2 : sgn (decide (val x + val y < 0)) (val x + val y).natAbs = val x + val y := by
      rw [sgn_eq]
      by_cases hn : val x + val y < 0
      · rw [decide_eq_true hn, if_pos rfl]; omega
      · rw [decide_eq_false hn, if_neg (by decide)]; omega
    rw [e2] at this
    exact this
theorem add_err {x y : UInt64} {a b : Int} {P : Nat} (hx : Fv x a) (hy : Fv y b) (hP : 53 ≤ P) (hP2 : P ≤ 2097) (hs : (a + b).natAbs ≤ 2 ^ P) :
    ∃ v, Fv (Float64.add x y) v ∧ 2 * (v - (a + b)).natAbs ≤ 2 ^ (P - 53) := by
  obtain ⟨s, m, e, hd, rfl⟩ := hx
  obtain ⟨s', m', e', hd', rfl⟩ := hy
  obtain ⟨h0, h1⟩ := Float64.add_right hd hd'
  by_cases hz : val x + val y = 0
  · refine ⟨0, ?_, ?_⟩
    · rw [h0 hz]; exact fv_zero _
    · rw [hz]; exact Nat.zero_le _
  · obtain ⟨t, ht, hlt, hV⟩ := right_err (h1 hz) (by decide) hP hP2 (by rw [Nat.one_mul]; exact hs)
    refine ⟨sgn (decide (val x + val y < 0)) (V t), ?_, ?_⟩
    · rw [ht]; exact fv_pack _ hlt
    · rw [Nat.one_mul, Nat.one_mul] at hV
      rw [dist_sgn]
      exact hV
theorem mul_val {a b : Bool} {m k : Nat} : sgn a m * sgn b k = sgn (a != b) (m * k) := by
  cases a <;> cases b <;> simp [sgn_eq, Int.natCast_mul, Int.neg_mul, Int.mul_neg]
theorem val_sgn {x : UInt64} {s : Bool} {m : Nat} {e : Int} (h : Float64.decode x = .fin s m e) : val x = sgn s (val x).natAbs := by
  rw [Float64.val_natAbs h, Float64.val_eq h]
theorem mul_exact {x y : UInt64} {a b : Int} {q j : Nat} (hx : Fv x a) (hy : Fv y b) (hs : (a * b).natAbs = 2 ^ 1074 * (q * 2 ^ j)) (hq : q < 2 ^ 53) (hj : j ≤ 2045) : ∃ v, Fv (Float64.mul x y) v ∧ v * 2 ^ 1074 = a * b := by
  obtain ⟨s, m, e, hd, rfl⟩ := hx
  obtain ⟨s', m', e', hd', rfl⟩ := hy
  have h := Float64.mul_right hd hd'
  rw [Int.natAbs_mul] at hs
  obtain ⟨t, ht, hlt, hV⟩ := right_exact h (Nat.two_pow_pos _) hs hq hj
  refine ⟨sgn (s != s') (V t), ?_, ?_⟩
  · rw [ht]; exact fv_pack _ hlt
  · rw [val_sgn hd, val_sgn hd', mul_val, hs, hV]
    have : ((2 : Int) ^ 1074) = ((2 ^ 1074 : Nat) : Int) := by simp
    rw [this, ← Float64.sgn_mul, Nat.mul_comm]
theorem mul_err {x y : UInt64} {a b : Int} {P : Nat} (hx : Fv x a) (hy : Fv y b) (hP : 53 ≤ P) (hP2 : P ≤ 2097) (hs : (a * b).natAbs ≤ 2 ^ 1074 * 2 ^ P) :
    ∃ v, Fv (Float64.mul x y) v ∧ 2 * (v * 2 ^ 1074 - a * b).natAbs ≤ 2 ^ 1074 * 2 ^ (P - 53) := by
  obtain ⟨s, m, e, hd, rfl⟩ := hx
  obtain ⟨s', m', e', hd', rfl⟩ := hy
  have h := Float64.mul_right hd hd'
  rw [Int.natAbs_mul] at hs
  obtain ⟨t, ht, hlt, hV⟩ := right_err h (Nat.two_pow_pos _) hP hP2 hs
  refine ⟨sgn (s != s') (V t), ?_, ?_⟩
  · rw [ht]; exact fv_pack _ hlt
  · rw [val_sgn hd, val_sgn hd', mul_val]
    have : ((2 : Int) ^ 1074) = ((2 ^ 1074 : Nat) : Int) := by simp
    rw [this, ← Float64.sgn_mul, Nat.mul_comm (V t)]
    refine Nat.le_trans (Nat.mul_le_mul_left 2 ?_) hV
    exact Nat.le_of_eq dist_sgn2
theorem div_exact {x y : UInt64} {a b : Int} {q j : Nat} (hx : Fv x a) (hy : Fv y b) (hb : b ≠ 0) (hs : a.natAbs * 2 ^ 1074 = b.natAbs * (q * 2 ^ j)) (hq : q < 2 ^ 53) (hj : j ≤ 2045) : ∃ v, Fv (Float64.div x y) v ∧ v * b = a * 2 ^ 1074 := by
  obtain ⟨s, m, e, hd, rfl⟩ := hx
  obtain ⟨s', m', e', hd', rfl⟩ := hy
  have hm : m' ≠ 0 := by
    rintro rfl
    apply hb
    rw [Float64.val_eq hd']
    cases s' <;> simp [sgn_eq]
  have h := Float64.div_right hd hd' hm
  obtain ⟨t, ht, hlt, hV⟩ := right_exact h (by omega) hs hq hj
  refine ⟨sgn (s != s') (V t), ?_, ?_⟩
  · rw [ht]; exact fv_pack _ hlt
  · have e1 : ((2 : Int) ^ 1074) = ((2 ^ 1074 : Nat) : Int) := by simp
    rw [val_sgn hd, val_sgn hd', mul_val, e1, ← Float64.sgn_mul, hs, hV, Nat.mul_comm]
    cases s <;> cases s' <;> rfl
theorem div_err {x y : UInt64} {a b : Int} {P : Nat} (hx : Fv x a) (hy : Fv y b) (hb : b ≠ 0) (hP : 53 ≤ P) (hP2 : P ≤ 2097) (hs : a.natAbs * 2 ^ 1074 ≤ b.natAbs * 2 ^ P) :
    ∃ v, Fv (Float64.div x y) v ∧ 2 * (v * b - a * 2 ^ 1074).natAbs ≤ b.natAbs * 2 ^ (P - 53) := by
  obtain ⟨s, m, e, hd, rfl⟩ := hx
  obtain ⟨s', m', e', hd', rfl⟩ := hy
  have hm : m' ≠ 0 := by
    rintro rfl
    apply hb
    rw [Float64.val_eq hd']
    cases s' <;> simp [sgn_eq]
  have h := Float64.div_right hd hd' hm
  obtain ⟨t, ht, hlt, hV⟩ := right_err h (by omega) hP hP2 hs
  refine ⟨sgn (s != s') (V t), ?_, ?_⟩
  · rw [ht]; exact fv_pack _ hlt
  · have e1 : ((2 : Int) ^ 1074) = ((2 ^ 1074 : Nat) : Int) := by simp
    have e2 : val x * ((2 ^ 1074 : Nat) : Int) = sgn s ((val x).natAbs * 2 ^ 1074) := by rw [Float64.sgn_mul, ← val_sgn hd]
    have e3 : sgn (s != s') (V t) * val y = sgn s (V t * (val y).natAbs) := by
      rw [val_sgn hd', mul_val, Float64.sgn_natAbs]
      cases s <;> cases s' <;> rfl
    rw [e1, e2, e3, Nat.mul_comm (V t)]
    refine Nat.le_trans (Nat.mul_le_mul_left 2 ?_) hV
    exact Nat.le_of_eq dist_sgn2
theorem fv_neg {x : UInt64} {a : Int} (hx : Fv x a) : Fv (Float64.neg x) (-a) := by
  obtain ⟨s, m, e, hd, rfl⟩ := hx
  exact ⟨_, _, _, Float64.neg_decode hd, Float64.neg_val hd⟩
theorem sub_def (x y : UInt64) : Float64.sub x y = Float64.add x (Float64.neg y) := by unfold Float64.sub; rfl
theorem sub_exact {x y : UInt64} {a b : Int} {q j : Nat} (hx : Fv x a) (hy : Fv y b) (hs : (a - b).natAbs = q * 2 ^ j) (hq : q < 2 ^ 53) (hj : j ≤ 2045) : Fv (Float64.sub x y) (a - b) := by
  have h := add_exact hx (fv_neg hy) (q := q) (j := j) (by rw [← Int.sub_eq_add_neg]; exact hs) hq hj
  rw [← Int.sub_eq_add_neg] at h
  rw [sub_def]
  exact h
theorem sub_err {x y : UInt64} {a b : Int} {P : Nat} (hx : Fv x a) (hy : Fv y b) (hP : 53 ≤ P) (hP2 : P ≤ 2097) (hs : (a - b).natAbs ≤ 2 ^ P) :
    ∃ v, Fv (Float64.sub x y) v ∧ 2 * (v - (a - b)).natAbs ≤ 2 ^ (P - 53) := by
  have h := add_err hx (fv_neg hy) hP hP2 (by rw [← Int.sub_eq_add_neg]; exact hs)
  rw [← Int.sub_eq_add_neg] at h
  rw [sub_def]
  exact h
theorem abs_decode {x : UInt64} {s : Bool} {m : Nat} {e : Int} (h : Float64.decode x = .fin s m e) : Float64.decode (Float64.abs x) = .fin false m e := by
  have hnan : Float64.isNaN x = false := by unfold Float64.isNaN; rw [h]
  have hp : (Float64.abs x).toNat = x.toNat % 2 ^ 63 := by
    unfold Float64.abs
    rw [if_neg (by simp [hnan]), Float64.pack_toNat false (by omega)]
    simp
  have h1 : (Float64.abs x).toNat / 2 ^ 63 = 0 := by rw [hp]; omega
  have h2 : (Float64.abs x).toNat / 2 ^ 52 % 2048 = x.toNat / 2 ^ 52 % 2048 := by rw [hp]; omega
  have h3 : (Float64.abs x).toNat % 2 ^ 52 = x.toNat % 2 ^ 52 := by rw [hp]; omega
  unfold Float64.decode at h ⊢
  simp only [h1, h2, h3] at h ⊢
  split at h
  · split at h <;> cases h
  · rename_i c1
    rw [if_neg c1]
    split at h
    · rename_i c2
      rw [if_pos c2]
      cases h
      rfl
    · rename_i c2
      rw [if_neg c2]
      cases h
      rfl
theorem fv_abs {x : UInt64} {a : Int} (hx : Fv x a) : Fv (Float64.abs x) (a.natAbs : Int) := by
  obtain ⟨s, m, e, hd, rfl⟩ := hx
  refine ⟨_, _, _, abs_decode hd, ?_⟩
  rw [Float64.val_eq (abs_decode hd), Float64.val_natAbs hd, sgn_eq]
  rfl
theorem cmp_fv {x y : UInt64} {a b : Int} (hx : Fv x a) (hy : Fv y b) : Float64.cmp x y = some (compare a b) := by
  obtain ⟨s, m, e, hd, rfl⟩ := hx
  obtain ⟨s', m', e', hd', rfl⟩ := hy
  exact Float64.cmp_right hd hd'
theorem cmp_eq {x y : UInt64} {a b : Int} (hx : Fv x a) (hy : Fv y b) : (Float64.cmp x y == some Ordering.eq) = decide (a = b) := by
  rw [cmp_fv hx hy]
  rcases Int.lt_trichotomy a b with h | h | h
  · rw [Int.compare_eq_lt.mpr h, decide_eq_false (by omega)]; rfl
  · rw [Int.compare_eq_eq.mpr h, decide_eq_true h]; rfl
  · rw [Int.compare_eq_gt.mpr h, decide_eq_false (by omega)]; rfl
theorem cmp_lt {x y : UInt64} {a b : Int} (hx : Fv x a) (hy : Fv y b) : (Float64.cmp x y == some Ordering.lt) = decide (a < b) := by
  rw [cmp_fv hx hy]
  rcases Int.lt_trichotomy a b with h | h | h
  · rw [Int.compare_eq_lt.mpr h, decide_eq_true h]; rfl
  · rw [Int.compare_eq_eq.mpr h, decide_eq_false (by omega)]; rfl
  · rw [Int.compare_eq_gt.mpr h, decide_eq_false (by omega)]; rfl
theorem cmp_gt {x y : UInt64} {a b : Int} (hx : Fv x a) (hy : Fv y b) : (Float64.cmp x y == some Ordering.gt) = decide (b < a) := by
  rw [cmp_fv hx hy]
  rcases Int.lt_trichotomy a b with h | h | h
  · rw [Int.compare_eq_lt.mpr h, decide_eq_false (by omega)]; rfl
  · rw [Int.compare_eq_eq.mpr h, decide_eq_false (by omega)]; rfl
  · rw [Int.compare_eq_gt.mpr h, decide_eq_true h]; rfl
theorem nn_fv {x : UInt64} {a : Int} (hx : Fv x a) (h : 0 ≤ a) : NN x := by
  show (Float64.cmp x 0 == some Ordering.lt) = false
  rw [cmp_lt hx fv_zero', decide_eq_false (by omega)]
end Mine

end FL
section FL2
open PySem PySem.W PySem.Calls PyProof.Rows
open PySem.Builtin.Math (vectorNorm)
set_option linter.unusedVariables false
namespace Mine
open PySem.Float64 (V Right dist infMag pack decode val sgn)
theorem decode_zero0 : decode 0 = .fin false 0 (-1074) := by
  with_unfolding_all rfl
theorem nn_iff_nan {x : UInt64} (h : decode x = .nan) : NN x := by
  show (Float64.cmp x 0 == some Ordering.lt) = false
  unfold Float64.cmp
  rw [h]
  rfl
theorem nn_inf {x : UInt64} (h : decode x = .inf false) : NN x := by
  show (Float64.cmp x 0 == some Ordering.lt) = false
  unfold Float64.cmp
  rw [h, decode_zero0]
  rfl
theorem not_nn_inf {x : UInt64} (h : decode x = .inf true) (hn : NN x) : False := by
  have hn' : (Float64.cmp x 0 == some Ordering.lt) = false := hn
  unfold Float64.cmp at hn'
  rw [h, decode_zero0] at hn'
  cases hn'
theorem nn_fin {x : UInt64} {s : Bool} {m : Nat} {e : Int} (h : decode x = .fin s m e) (hn : NN x) : s = false ∨ m = 0 := by
  have hf : Fv x (val x) := ⟨_, _, _, h, rfl⟩
  have hn' : (Float64.cmp x 0 == some Ordering.lt) = false := hn
  rw [cmp_lt hf fv_zero'] at hn'
  have h0 : ¬ val x < 0 := of_decide_eq_false hn'
  cases s with
  | false => exact .inl rfl
  | true =>
    right
    rw [Float64.val_eq h, sgn_eq] at h0
    rcases Nat.eq_zero_or_pos m with hm | hm
    · exact hm
    · have := Nat.mul_pos hm (Nat.two_pow_pos (e + 1074).toNat)
      simp only [if_true] at h0
      omega
theorem decode_infMag : decode (pack false infMag) = .inf false := by
  have h : (pack false infMag).toNat = 2047 * 2^52 := by decide +kernel
  unfold Float64.decode
  rw [h]
  rfl
theorem decode_nan : decode Float64.nan = .nan := by
  have h : (Float64.nan).toNat = 2047 * 2^52 + 2^51 := by decide +kernel
  unfold Float64.decode
  rw [h]
  rfl
theorem nn_pack {t : Nat} (h : t ≤ infMag) : NN (pack false t) := by
  rcases Nat.lt_or_ge t infMag with h1 | h1
  · exact nn_fv (fv_pack false h1) (by rw [sgn_eq]; simp)
  · have : t = infMag := by omega
    subst this
    exact nn_inf decode_infMag
theorem nn_ofFrac (n d : Nat) : NN (Float64.ofFrac false n d) := by
  unfold Float64.ofFrac
  exact nn_pack (by rw [Float64.roundMag_min]; omega)
theorem ofFrac_zero (b : Bool) (d : Nat) : NN (Float64.ofFrac b 0 d) := by
  unfold Float64.ofFrac
  have : Float64.roundMag 0 d = 0 := by unfold Float64.roundMag; rfl
  rw [this]
  exact nn_fv (fv_zero b) (by omega)
theorem nn_ofBin {s : Bool} {m : Nat} {e : Int} (h : s = false ∨ m = 0) : NN (Float64.ofBin s m e) := by
  unfold Float64.ofBin
  rcases h with rfl | rfl
  · exact nn_ofFrac _ _
  · have : (Float64.shift 0 1 e).1 = 0 := by unfold Float64.shift; split <;> simp
    simp only [this]
    exact ofFrac_zero _ _
theorem abs_cases (z : UInt64) : decode (Float64.abs z) = .nan ∨ decode (Float64.abs z) = .inf false ∨ ∃ m e, decode (Float64.abs z) = .fin false m e := by
  cases h : decode z with
  | nan =>
    left
    have hnan : Float64.isNaN z = true := by unfold Float64.isNaN; rw [h]
    unfold Float64.abs
    rw [if_pos hnan]
    exact decode_nan
  | fin s m e => exact .inr (.inr ⟨m, e, abs_decode h⟩)
  | inf s =>
    right; left
    have hnan : Float64.isNaN z = false := by unfold Float64.isNaN; rw [h]
    have hp : Float64.abs z = pack false (z.toNat % 2 ^ 63) := by
      unfold Float64.abs
      rw [if_neg (by simp [hnan])]
    have he : z.toNat % 2 ^ 63 = infMag := by
      unfold Float64.decode at h
      simp only at h
      split at h
      · rename_i c
        split at h
        · rename_i c2
          have c' : z.toNat / 2 ^ 52 % 2048 = 2047 := by simpa using c
          have c2' : z.toNat % 2 ^ 52 = 0 := by simpa using c2
          unfold Float64.infMag
          omega
        · cases h
      · split at h <;> cases h
    rw [hp, he]
    exact decode_infMag
theorem nn_nan : NN Float64.nan := nn_iff_nan decode_nan
theorem nn_infF : NN (Float64.inf false) := by unfold Float64.inf; exact nn_pack (Nat.le_refl _)
theorem nn_mul {sg z : UInt64} (h : NN sg) : NN (Float64.mul sg (Float64.abs z)) := by
  unfold Float64.mul
  cases hs : decode sg with
  | nan => exact nn_nan
  | inf s =>
    cases s with
    | true => exact (not_nn_inf hs h).elim
    | false =>
      rcases abs_cases z with hz | hz | ⟨m, e, hz⟩
      · rw [hz]; exact nn_nan
      · rw [hz]; exact nn_infF
      · rw [hz]
        show NN (if m == 0 then Float64.nan else Float64.inf (false != false))
        split
        · exact nn_nan
        · exact nn_infF
  | fin s m e =>
    have h0 := nn_fin hs h
    rcases abs_cases z with hz | hz | ⟨k, f, hz⟩
    · rw [hz]; exact nn_nan
    · rw [hz]
      show NN (if m == 0 then Float64.nan else Float64.inf (s != false))
      rcases h0 with rfl | rfl
      · split
        · exact nn_nan
        · exact nn_infF
      · exact nn_nan
    · rw [hz]
      refine nn_ofBin ?_
      rcases h0 with rfl | rfl
      · exact .inl rfl
      · exact .inr (Nat.zero_mul _)
theorem nn_zero (b : Bool) : NN (Float64.zero b) := nn_fv (fv_zero b) (by omega)
theorem nn_div {sg z : UInt64} (h : NN sg) : NN (Float64.div sg (Float64.abs z)) := by
  unfold Float64.div
  cases hs : decode sg with
  | nan => exact nn_nan
  | inf s =>
    cases s with
    | true => exact (not_nn_inf hs h).elim
    | false =>
      rcases abs_cases z with hz | hz | ⟨m, e, hz⟩
      · rw [hz]; exact nn_nan
      · rw [hz]; exact nn_nan
      · rw [hz]; exact nn_infF
  | fin s m e =>
    have h0 := nn_fin hs h
    rcases abs_cases z with hz | hz | ⟨k, f, hz⟩
    · rw [hz]; exact nn_nan
    · rw [hz]; exact nn_zero _
    · rw [hz]
      dsimp only
      split
      · split
        · exact nn_nan
        · rename_i c
          rcases h0 with rfl | rfl
          · exact nn_infF
          · exact absurd rfl c
      · rcases h0 with rfl | rfl
        · exact nn_ofFrac _ _
        · have : (Float64.shift 0 k (e - f)).1 = 0 := by unfold Float64.shift; split <;> simp
          rw [this]
          exact ofFrac_zero _ _
theorem fv_ofInt {i : Int} {q j : Nat} (h : i.natAbs = q * 2 ^ j) (hq : q < 2 ^ 53) (hj : j ≤ 900) : Fv (Float64.ofInt i) (i * 2 ^ 1074) := by
  have hr := Float64.ofInt_right i
  obtain ⟨t, ht, hlt, hV⟩ := right_exact (q := q) (j := j + 1074) hr (by decide) (by rw [h, Nat.one_mul, Nat.pow_add, Nat.mul_assoc]) hq (by omega)
  rw [ht]
  have := fv_pack (decide (i < 0)) hlt
  rw [hV, Nat.pow_add, ← Nat.mul_assoc, ← h] at this
  have e : sgn (decide (i < 0)) (i.natAbs * 2 ^ 1074) = i * 2 ^ 1074 := by
    rw [Float64.sgn_mul]
    have : ((2 : Int) ^ 1074) = ((2 ^ 1074 : Nat) : Int) := by simp
    rw [this]
    congr 1
    rw [sgn_eq]
    by_cases hn : i < 0
    · rw [decide_eq_true hn, if_pos rfl]; omega
    · rw [decide_eq_false hn, if_neg (by decide)]; omega
  rw [e] at this
  exact this
theorem dy_ofInt {i : Int} (h : i.natAbs < 2 ^ 53) : Dy (Float64.ofInt i) i 1074 := fv_ofInt (q := i.natAbs) (j := 0) (by simp) h (by omega)
end Mine

end FL2
section FL3
open PySem PySem.W PySem.Calls PyProof.Rows
open PySem.Builtin.Math
set_option linter.unusedVariables false
set_option exponentiation.threshold 3000
namespace Mine
open PySem.Float64 (V Right dist infMag pack decode val sgn)
theorem natAbs_mul_pow (n : Int) (k : Nat) : (n * 2 ^ k).natAbs = n.natAbs * 2 ^ k := by
  rw [Int.natAbs_mul, Int.natAbs_pow]; rfl
theorem dy_add {x y : UInt64} {a b : Int} {k : Nat} (hx : Dy x a k) (hy : Dy y b k) (h : (a + b).natAbs < 2 ^ 53) (hk : k ≤ 2045) : Dy (Float64.add x y) (a + b) k := by
  have h1 := add_exact (q := (a + b).natAbs) (j := k) hx hy (by rw [← Int.add_mul, natAbs_mul_pow]) h hk
  rw [← Int.add_mul] at h1
  exact h1
theorem dy_sub {x y : UInt64} {a b : Int} {k : Nat} (hx : Dy x a k) (hy : Dy y b k) (h : (a - b).natAbs < 2 ^ 53) (hk : k ≤ 2045) : Dy (Float64.sub x y) (a - b) k := by
  have h1 := sub_exact (q := (a - b).natAbs) (j := k) hx hy (by rw [← Int.sub_mul, natAbs_mul_pow]) h hk
  rw [← Int.sub_mul] at h1
  exact h1
theorem dy_neg {x : UInt64} {a : Int} {k : Nat} (hx : Dy x a k) : Dy (Float64.neg x) (-a) k := by
  have h1 := fv_neg hx
  rw [← Int.neg_mul] at h1
  exact h1
theorem dy_abs {x : UInt64} {a : Int} {k : Nat} (hx : Dy x a k) : Dy (Float64.abs x) (a.natAbs : Int) k := by
  have h1 := fv_abs hx
  rw [natAbs_mul_pow, Int.natCast_mul, Int.natCast_pow] at h1
  exact h1
theorem dy_mul {x y : UInt64} {a b : Int} {j k l : Nat} (hx : Dy x a j) (hy : Dy y b k) (h : (a * b).natAbs < 2 ^ 53) (hjk : j + k = 1074 + l) (hl : l ≤ 2045) : Dy (Float64.mul x y) (a * b) l := by
  have hp : (2 : Nat) ^ j * 2 ^ k = 2 ^ 1074 * 2 ^ l := by rw [← Nat.pow_add, hjk, Nat.pow_add]
  have hpi : (2 : Int) ^ j * 2 ^ k = 2 ^ 1074 * 2 ^ l := by rw [← Int.pow_add, hjk, Int.pow_add]
  obtain ⟨v, hv, e⟩ := mul_exact (q := (a * b).natAbs) (j := l) hx hy (by
    rw [Int.natAbs_mul, natAbs_mul_pow, natAbs_mul_pow, Int.natAbs_mul]
    calc a.natAbs * 2 ^ j * (b.natAbs * 2 ^ k) = a.natAbs * b.natAbs * (2 ^ j * 2 ^ k) := by ac_rfl
      _ = 2 ^ 1074 * (a.natAbs * b.natAbs * 2 ^ l) := by rw [hp]; ac_rfl) h hl
  have e2 : v * 2 ^ 1074 = a * b * 2 ^ l * 2 ^ 1074 := by
    rw [e]
    calc a * 2 ^ j * (b * 2 ^ k) = a * b * (2 ^ j * 2 ^ k) := by ac_rfl
      _ = a * b * 2 ^ l * 2 ^ 1074 := by rw [hpi]; ac_rfl
  have e3 : v = a * b * 2 ^ l := Int.eq_of_mul_eq_mul_right (Int.pow_ne_zero (by decide)) e2
  rw [e3] at hv
  exact hv
theorem dy_div {x y : UInt64} {c b : Int} {j k l : Nat} (hx : Dy x (c * b) j) (hy : Dy y b k) (hb : b ≠ 0) (h : c.natAbs < 2 ^ 53) (hjk : j + 1074 = k + l) (hl : l ≤ 2045) : Dy (Float64.div x y) c l := by
  have hp : (2 : Nat) ^ j * 2 ^ 1074 = 2 ^ k * 2 ^ l := by rw [← Nat.pow_add, hjk, Nat.pow_add]
  have hpi : (2 : Int) ^ j * 2 ^ 1074 = 2 ^ k * 2 ^ l := by rw [← Int.pow_add, hjk, Int.pow_add]
  have hb2 : b * 2 ^ k ≠ 0 := Int.mul_ne_zero hb (Int.pow_ne_zero (by decide))
  obtain ⟨v, hv, e⟩ := div_exact (q := c.natAbs) (j := l) hx hy hb2 (by
    rw [natAbs_mul_pow, natAbs_mul_pow, Int.natAbs_mul]
    calc c.natAbs * b.natAbs * 2 ^ j * 2 ^ 1074 = c.natAbs * b.natAbs * (2 ^ j * 2 ^ 1074) := by ac_rfl
      _ = b.natAbs * 2 ^ k * (c.natAbs * 2 ^ l) := by rw [hp]; ac_rfl) h hl
  have e2 : v * (b * 2 ^ k) = c * 2 ^ l * (b * 2 ^ k) := by
    rw [e]
    calc c * b * 2 ^ j * 2 ^ 1074 = c * b * (2 ^ j * 2 ^ 1074) := by ac_rfl
      _ = c * 2 ^ l * (b * 2 ^ k) := by rw [hpi]; ac_rfl
  have e3 : v = c * 2 ^ l := Int.eq_of_mul_eq_mul_right hb2 e2
  rw [e3] at hv
  exact hv
theorem dy_scale {x : UInt64} {a : Int} {j k l : Nat} (hx : Dy x a k) (h : k = j + l) : Dy x (a * 2 ^ j) l := by
  subst h
  unfold Dy at *
  rw [Int.pow_add, ← Int.mul_assoc] at hx
  exact hx
theorem sgn_add_pow {a : Bool} {m : Nat} {d : Nat} : sgn a (m * 2 ^ d) = sgn a m * 2 ^ d := by
  rw [Float64.sgn_mul, Int.natCast_pow]; rfl
theorem tn_add {a b c d : Int} (ha : 0 ≤ a) (hb : 0 ≤ b) (hc : 0 ≤ c) (hd : 0 ≤ d) (h : a + b = c + d) : a.toNat + b.toNat = c.toNat + d.toNat := by
  rw [← Int.toNat_add ha hb, ← Int.toNat_add hc hd, h]
theorem fma_right {x y z : UInt64} {a b c : Bool} {m k n : Nat} {e f g : Int} (hx : decode x = .fin a m e) (hy : decode y = .fin b k f) (hz : decode z = .fin c n g) :
    (val x * val y + val z * 2 ^ 1074 = 0 → Fv (Float64.fma x y z) 0) ∧
    (val x * val y + val z * 2 ^ 1074 ≠ 0 → Right (Float64.fma x y z) (decide (val x * val y + val z * 2 ^ 1074 < 0)) (val x * val y + val z * 2 ^ 1074).natAbs (2 ^ 1074)) := by
  have he := Float64.decode_ge hx
  have hf := Float64.decode_ge hy
  have hg := Float64.decode_ge hz
  have hfma : Float64.fma x y z = if sgn (a != b) (m * k * 2 ^ (e + f - min (e + f) g).toNat) + sgn c (n * 2 ^ (g - min (e + f) g).toNat) == 0 then Float64.zero (if m * k == 0 && n == 0 then (a != b) && c else false)
      else Float64.ofBin (sgn (a != b) (m * k * 2 ^ (e + f - min (e + f) g).toNat) + sgn c (n * 2 ^ (g - min (e + f) g).toNat) < 0) (sgn (a != b) (m * k * 2 ^ (e + f - min (e + f) g).toNat) + sgn c (n * 2 ^ (g - min (e + f) g).toNat)).natAbs (min (e + f) g) := by
    unfold Float64.fma
    rw [hx, hy, hz]
    rfl
  have hT : val x * val y + val z * 2 ^ 1074 = (sgn (a != b) (m * k * 2 ^ (e + f - min (e + f) g).toNat) + sgn c (n * 2 ^ (g - min (e + f) g).toNat)) * 2 ^ (min (e + f) g + 2148).toNat := by
    rw [Float64.val_eq hx, Float64.val_eq hy, Float64.val_eq hz, mul_val, sgn_add_pow, sgn_add_pow, sgn_add_pow, Int.add_mul, Int.mul_assoc, Int.mul_assoc, Int.mul_assoc, ← Int.pow_add, ← Int.pow_add, ← Int.pow_add]
    have e1 : (g + 1074).toNat + 1074 = (g - min (e + f) g).toNat + (min (e + f) g + 2148).toNat := tn_add (b := 1074) (by omega) (by decide) (by omega) (by omega) (by omega)
    have e2 : (e + 1074).toNat + (f + 1074).toNat = (e + f - min (e + f) g).toNat + (min (e + f) g + 2148).toNat := tn_add (by omega) (by omega) (by omega) (by omega) (by omega)
    rw [← e1, ← e2]
    congr 1
    have : m * 2 ^ (e + 1074).toNat * (k * 2 ^ (f + 1074).toNat) = m * k * 2 ^ ((e + 1074).toNat + (f + 1074).toNat) := by rw [Nat.pow_add]; ac_rfl
    rw [this, sgn_add_pow]
  generalize hS : sgn (a != b) (m * k * 2 ^ (e + f - min (e + f) g).toNat) + sgn c (n * 2 ^ (g - min (e + f) g).toNat) = S at *
  have hpos : (0 : Int) < 2 ^ (min (e + f) g + 2148).toNat := Int.pow_pos (by decide)
  constructor
  · intro h0
    have hs : S = 0 := by
      rw [hT] at h0
      rcases Int.mul_eq_zero.mp h0 with h | h
      · exact h
      · omega
    rw [hfma, hs]
    exact fv_zero _
  · intro h0
    have hs : S ≠ 0 := by
      intro h
      rw [h, Int.zero_mul] at hT
      exact h0 hT
    have hneg : decide (val x * val y + val z * 2 ^ 1074 < 0) = decide (S < 0) := by
      rw [hT]
      apply decide_eq_decide.mpr
      constructor
      · intro h
        by_cases h2 : S < 0
        · exact h2
        · have := Int.mul_nonneg (show 0 ≤ S by omega) (Int.le_of_lt hpos)
          omega
      · intro h
        exact Int.mul_neg_of_neg_of_pos h hpos
    rw [hfma, if_neg (by simpa using hs), hneg, hT, natAbs_mul_pow]
    unfold Float64.ofBin
    refine Float64.ofFrac_right (Float64.shift_pos _ _ _ (by decide)) ?_ (Nat.two_pow_pos _)
    have := Float64.shift_one S.natAbs (min (e + f) g) 2148 (by omega)
    have e1 : (min (e + f) g + ((2148 : Nat) : Int)).toNat = (min (e + f) g + 2148).toNat := by omega
    rw [e1] at this
    rw [Nat.mul_assoc, ← Nat.pow_add]
    exact this
theorem fma_zero {x y z : UInt64} {a b c : Int} (hx : Fv x a) (hy : Fv y b) (hz : Fv z c) (h : a * b + c * 2 ^ 1074 = 0) : Fv (Float64.fma x y z) 0 := by
  obtain ⟨s, m, e, hd, rfl⟩ := hx
  obtain ⟨s', m', e', hd', rfl⟩ := hy
  obtain ⟨s'', m'', e'', hd'', rfl⟩ := hz
  exact (fma_right hd hd' hd'').1 h
theorem fma_err {x y z : UInt64} {a b c : Int} {P : Nat} (hx : Fv x a) (hy : Fv y b) (hz : Fv z c) (hP : 53 ≤ P) (hP2 : P ≤ 2097) (h : (a * b + c * 2 ^ 1074).natAbs ≤ 2 ^ 1074 * 2 ^ P) :
    ∃ v, Fv (Float64.fma x y z) v ∧ 2 * (v * 2 ^ 1074 - (a * b + c * 2 ^ 1074)).natAbs ≤ 2 ^ 1074 * 2 ^ (P - 53) := by
  obtain ⟨s, m, e, hd, rfl⟩ := hx
  obtain ⟨s', m', e', hd', rfl⟩ := hy
  obtain ⟨s'', m'', e'', hd'', rfl⟩ := hz
  obtain ⟨h0, h1⟩ := fma_right hd hd' hd''
  generalize val x * val y + val z * 2 ^ 1074 = T at *
  by_cases hz : T = 0
  · refine ⟨0, h0 hz, ?_⟩
    rw [hz]; simp
  · obtain ⟨t, ht, hlt, hV⟩ := right_err (h1 hz) (Nat.two_pow_pos _) hP hP2 h
    refine ⟨sgn (decide (T < 0)) (V t), ?_, ?_⟩
    · rw [ht]; exact fv_pack _ hlt
    · refine Nat.le_trans (Nat.mul_le_mul_left 2 ?_) hV
      have e1 : ((2 : Int) ^ 1074) = ((2 ^ 1074 : Nat) : Int) := by simp
      rw [e1, ← Float64.sgn_mul, Nat.mul_comm (V t)]
      exact Nat.le_of_eq dist_sgn
end Mine

end FL3
section FL4
open PySem PySem.W PySem.Calls PyProof.Rows
open PySem.Builtin.Math
set_option linter.unusedVariables false
set_option exponentiation.threshold 3000
namespace Mine
open PySem.Float64 (V Right dist infMag pack decode val sgn)
theorem fv_pos {x : UInt64} {v : Int} (h : Fv x v) (h0 : 0 < v) : ∃ m e, decode x = .fin false m e ∧ m ≠ 0 ∧ val x = v := by
  obtain ⟨s, m, e, hd, rfl⟩ := h
  have hv := Float64.val_eq hd
  cases s with
  | true =>
    exfalso
    rw [sgn_eq, if_pos rfl] at hv
    omega
  | false =>
    refine ⟨m, e, hd, ?_, rfl⟩
    rintro rfl
    rw [sgn_eq, if_neg (by decide), Nat.zero_mul] at hv
    omega
theorem sq_le {a b : Nat} (h : a * a ≤ b * b) : a ≤ b := by
  rcases Nat.lt_or_ge b a with h1 | h1
  · have := Nat.mul_self_lt_mul_self h1
    omega
  · exact h1
theorem sqrt_in {x : UInt64} {v : Int} {lo hi : Nat} (hx : Fv x v) (h0 : 0 < v) (h1 : lo * lo ≤ v.natAbs * 2 ^ 1074) (h2 : v.natAbs * 2 ^ 1074 ≤ hi * hi)
    (r1 : ∃ t, t < infMag ∧ V t = lo) (r2 : ∃ t, t < infMag ∧ V t = hi) : ∃ w : Nat, Fv (Float64.sqrt x) w ∧ lo ≤ w ∧ w ≤ hi := by
  obtain ⟨m, e, hd, hm, rfl⟩ := fv_pos hx h0
  obtain ⟨t, ht, hlt, hup, hdn⟩ := Float64.sqrt_right hd hm
  obtain ⟨a, ha, rfl⟩ := r1
  obtain ⟨b, hb, rfl⟩ := r2
  refine ⟨V t, ?_, ?_, ?_⟩
  · rw [ht]
    have := fv_pack false hlt
    rw [sgn_eq, if_neg (by decide)] at this
    exact this
  · rcases Nat.lt_or_ge t a with h | h
    · have h3 := hup a h
      have h4 := Float64.V_lt h
      have h5 : (2 * V a) * (2 * V a) ≤ (V t + V a) * (V t + V a) := by
        refine Nat.le_trans ?_ h3
        have : (2 * V a) * (2 * V a) = 4 * (V a * V a) := by rw [show (4 : Nat) = 2 * 2 by rfl]; ac_rfl
        omega
      have := sq_le h5
      omega
    · rcases Nat.eq_or_lt_of_le h with h | h
      · subst h; exact Nat.le_refl _
      · exact Nat.le_of_lt (Float64.V_lt h)
  · rcases Nat.lt_or_ge b t with h | h
    · have h3 := hdn b h
      have h4 := Float64.V_lt h
      have h5 : (V t + V b) * (V t + V b) ≤ (2 * V b) * (2 * V b) := by
        refine Nat.le_trans h3 ?_
        have : (2 * V b) * (2 * V b) = 4 * (V b * V b) := by rw [show (4 : Nat) = 2 * 2 by rfl]; ac_rfl
        omega
      have := sq_le h5
      omega
    · rcases Nat.eq_or_lt_of_le h with h | h
      · subst h; exact Nat.le_refl _
      · exact Nat.le_of_lt (Float64.V_lt h)
theorem root_ex (n : Nat) : ∃ q : Nat, q * q ≤ n ∧ n < (q + 1) * (q + 1) := by
  induction n with
  | zero => exact ⟨0, by decide, by decide⟩
  | succ n ih =>
    obtain ⟨q, h1, h2⟩ := ih
    by_cases h : n + 1 < (q + 1) * (q + 1)
    · exact ⟨q, by omega, h⟩
    · refine ⟨q + 1, by omega, ?_⟩
      have h3 : (q + 1) * (q + 1) < (q + 1 + 1) * (q + 1 + 1) := Nat.mul_self_lt_mul_self (by omega)
      omega
theorem sqrt_err {x : UInt64} {v : Int} {j : Nat} (hx : Fv x v) (h0 : 0 < v) (hj : j ≤ 2044) (h : v.natAbs * 2 ^ 1074 < 2 ^ (53 + j) * 2 ^ (53 + j)) :
    ∃ w lo : Nat, Fv (Float64.sqrt x) w ∧ lo ≤ w ∧ w ≤ lo + 2 ^ j ∧ lo * lo ≤ v.natAbs * 2 ^ 1074 ∧ v.natAbs * 2 ^ 1074 < (lo + 2 ^ j) * (lo + 2 ^ j) := by
  generalize hT : v.natAbs * 2 ^ 1074 = T at *
  have hz : 0 < 2 ^ j := Nat.two_pow_pos j
  obtain ⟨q, h1, h2⟩ := root_ex (T / (2 ^ j * 2 ^ j))
  have hN : 0 < 2 ^ j * 2 ^ j := Nat.mul_pos hz hz
  have h3 : q * 2 ^ j * (q * 2 ^ j) ≤ T := by
    have := (Nat.le_div_iff_mul_le hN).mp h1
    refine Nat.le_trans (Nat.le_of_eq ?_) this
    ac_rfl
  have h4 : T < (q * 2 ^ j + 2 ^ j) * (q * 2 ^ j + 2 ^ j) := by
    have := (Nat.div_lt_iff_lt_mul hN).mp h2
    refine Nat.lt_of_lt_of_eq this ?_
    have e : q * 2 ^ j + 2 ^ j = (q + 1) * 2 ^ j := by rw [Nat.add_mul, Nat.one_mul]
    rw [e]
    ac_rfl
  have hq : q < 2 ^ 53 := by
    rw [Nat.pow_add] at h
    generalize (2 : Nat) ^ j = z at *
    rcases Nat.lt_or_ge q (2 ^ 53) with h5 | h5
    · exact h5
    · have := Nat.mul_le_mul_right z h5
      have := Nat.mul_le_mul this this
      omega
  obtain ⟨w, hw, hl, hh⟩ := sqrt_in (lo := q * 2 ^ j) (hi := (q + 1) * 2 ^ j) hx h0 (by rw [hT]; exact h3) (by rw [hT, Nat.add_mul, Nat.one_mul]; exact Nat.le_of_lt h4) (repr_V j q hq (by omega)) (repr_V' j (q + 1) (by omega) hj)
  rw [Nat.add_mul, Nat.one_mul] at hh
  exact ⟨w, q * 2 ^ j, hw, hl, hh, h3, h4⟩
theorem dy_sqrt {x : UInt64} {c k l : Nat} (hx : Dy x ((c * c : Nat) : Int) k) (hc : 0 < c) (hq : c < 2 ^ 53) (h : k + 1074 = l + l) (hl : l ≤ 2045) : Dy (Float64.sqrt x) c l := by
  have hz : (0 : Int) < ((c * c : Nat) : Int) * 2 ^ k := Int.mul_pos (by have := Nat.mul_pos hc hc; omega) (Int.pow_pos (by decide))
  have hv : (((c * c : Nat) : Int) * 2 ^ k).natAbs * 2 ^ 1074 = c * 2 ^ l * (c * 2 ^ l) := by
    rw [natAbs_mul_pow, Int.natAbs_natCast, Nat.mul_assoc, ← Nat.pow_add, h, Nat.pow_add]
    ac_rfl
  obtain ⟨w, hw, hl, hh⟩ := sqrt_in (lo := c * 2 ^ l) (hi := c * 2 ^ l) hx hz (by rw [hv]; exact Nat.le_refl _) (by rw [hv]; exact Nat.le_refl _) (repr_V l c hq hl) (repr_V l c hq hl)
  have : w = c * 2 ^ l := by omega
  subst this
  rw [Int.natCast_mul, Int.natCast_pow] at hw
  exact hw
theorem two_pow_between {a b : Nat} {v : Nat} (h1 : 2 ^ a ≤ v) (h2 : v < 2 ^ (b + 1)) : a ≤ b := by
  have := (Nat.pow_lt_pow_iff_right (a := 2) (by decide)).mp (Nat.lt_of_le_of_lt h1 h2)
  omega
theorem frexp_exp {x : UInt64} {n k L : Nat} (hx : Dy x (n : Int) k) (h1 : 2 ^ L ≤ n) (h2 : n < 2 ^ (L + 1)) : (Float64.frexp x).2 = (L + k : Int) - 1073 := by
  have hz : (0 : Int) < (n : Int) * 2 ^ k := Int.mul_pos (by have := Nat.two_pow_pos L; omega) (Int.pow_pos (by decide))
  obtain ⟨m, e, hd, hm, hv⟩ := fv_pos hx hz
  have he := Float64.decode_ge hd
  have h3 : m * 2 ^ (e + 1074).toNat = n * 2 ^ k := by
    have := Float64.val_natAbs hd
    rw [hv, natAbs_mul_pow, Int.natAbs_natCast] at this
    exact this.symm
  have ha : 2 ^ m.log2 ≤ m := Nat.log2_self_le hm
  have hb : m < 2 ^ (m.log2 + 1) := Nat.lt_log2_self
  have hf : (Float64.frexp x).2 = e + m.log2 + 1 := by
    unfold Float64.frexp
    rw [hd]
    simp only
    rw [if_neg (by simpa using hm)]
  have i1 : 2 ^ (m.log2 + (e + 1074).toNat) ≤ n * 2 ^ k := by rw [← h3, Nat.pow_add]; exact Nat.mul_le_mul_right _ ha
  have i2 : n * 2 ^ k < 2 ^ (L + k + 1) := by
    rw [show L + k + 1 = L + 1 + k by omega, Nat.pow_add]
    exact Nat.mul_lt_mul_of_pos_right h2 (Nat.two_pow_pos _)
  have i3 : 2 ^ (L + k) ≤ n * 2 ^ k := by rw [Nat.pow_add]; exact Nat.mul_le_mul_right _ h1
  have i4 : n * 2 ^ k < 2 ^ (m.log2 + (e + 1074).toNat + 1) := by
    rw [← h3, show m.log2 + (e + 1074).toNat + 1 = m.log2 + 1 + (e + 1074).toNat by omega, Nat.pow_add _ (m.log2 + 1)]
    exact Nat.mul_lt_mul_of_pos_right hb (Nat.two_pow_pos _)
  have j1 := two_pow_between i1 i2
  have j2 := two_pow_between i3 i4
  rw [hf]
  omega
theorem decode_one : decode Float64.one = .fin false (2 ^ 52) (-52) := by
  have h : (Float64.one).toNat = 1023 * 2 ^ 52 := by decide +kernel
  unfold Float64.decode
  rw [h]
  rfl
theorem dy_one {j k : Nat} (h : j + k = 1074) : Dy Float64.one (2 ^ j) k := by
  have hv := Float64.val_eq decode_one
  refine ⟨_, _, _, decode_one, ?_⟩
  rw [hv, ← Int.pow_add, h]
  decide +kernel
theorem dy_ldexp_one {E : Int} {K : Nat} (h : E + 1074 = K) (h1 : 52 ≤ K) (h2 : K ≤ 2045) : Dy (Float64.ldexp Float64.one E) 1 K := by
  have hl : Float64.ldexp Float64.one E = Float64.ofBin false (2 ^ 52) (E - 52) := by
    unfold Float64.ldexp
    rw [decode_one]
    simp only
    congr 1
    omega
  have hr := Float64.ofBin_right (neg := false) (M := 2 ^ 52) (g := E - 52) (by omega)
  obtain ⟨t, ht, hlt, hV⟩ := right_exact (q := 1) (j := K) hr (by decide) (by
    rw [Nat.one_mul, Nat.one_mul, ← Nat.pow_add]
    congr 1
    omega) (by decide) h2
  rw [hl, ht]
  have := fv_pack false hlt
  rw [sgn_eq, if_neg (by decide), hV] at this
  unfold Dy
  rw [Int.natCast_mul, Int.natCast_pow] at this
  exact this
end Mine

end FL4
section FL5
open PySem PySem.W PySem.Calls PyProof.Rows
open PySem.Builtin.Math
set_option linter.unusedVariables false
set_option exponentiation.threshold 3000
namespace Mine
open PySem.Float64 (V Right dist infMag pack decode val sgn)
theorem dy_zero {x : UInt64} (h : Fv x 0) (k : Nat) : Dy x 0 k := by
  unfold Dy; rw [Int.zero_mul]; exact h
theorem zero_dy {x : UInt64} {k : Nat} (h : Dy x 0 k) : Fv x 0 := by
  unfold Dy at h; rw [Int.zero_mul] at h; exact h
theorem dl_mul {x y : UInt64} {a b : Int} {j k l : Nat} (hx : Dy x a j) (hy : Dy y b k) (h : (a * b).natAbs < 2 ^ 53) (hjk : j + k = 1074 + l) (hl : l ≤ 2045) : Dy (dlMul x y).1 (a * b) l ∧ Fv (dlMul x y).2 0 := by
  have h1 := dy_mul hx hy h hjk hl
  refine ⟨h1, fma_zero hx hy (dy_neg h1) ?_⟩
  have hpi : (2 : Int) ^ j * 2 ^ k = 2 ^ 1074 * 2 ^ l := by rw [← Int.pow_add, hjk, Int.pow_add]
  have : a * 2 ^ j * (b * 2 ^ k) = a * b * 2 ^ l * 2 ^ 1074 := by
    calc a * 2 ^ j * (b * 2 ^ k) = a * b * (2 ^ j * 2 ^ k) := by ac_rfl
      _ = _ := by rw [hpi]; ac_rfl
  rw [this, Int.neg_mul, Int.neg_mul]
  omega
def stepN (st : UInt64 × UInt64 × UInt64) (pr : UInt64 × UInt64) : UInt64 × UInt64 × UInt64 :=
  ((dlFastSum st.1 pr.1).1, Float64.add st.2.1 pr.2, Float64.add st.2.2 (dlFastSum st.1 pr.1).2)
def tailN (st : UInt64 × UInt64 × UInt64) : UInt64 := Float64.add (Float64.sub st.1 Float64.one) (Float64.add st.2.1 st.2.2)
def endN (st : UInt64 × UInt64 × UInt64) (h : UInt64) : UInt64 :=
  Float64.add h (Float64.div (tailN (stepN st (dlMul (Float64.neg h) h))) (Float64.mul (Float64.ofInt 2) h))
def headN (x y : UInt64) : UInt64 × UInt64 × UInt64 := stepN (stepN (Float64.one, Float64.zero false, Float64.zero false) (dlMul x x)) (dlMul y y)
theorem scaled2 (x y big : UInt64) : scaledNorm [x, y] big =
    (let s := Float64.ldexp Float64.one (-(Float64.frexp big).2)
     let st := headN (Float64.mul x s) (Float64.mul y s)
     Float64.div (endN st (Float64.sqrt (tailN st))) s) := rfl
end Mine

end FL5
section FL6
open PySem PySem.W PySem.Calls PyProof.Rows
open PySem.Builtin.Math
set_option linter.unusedVariables false
set_option exponentiation.threshold 3000
namespace Mine
open PySem.Float64 (V Right dist infMag pack decode val sgn)
structure UG (G O : Nat) : Prop where
  g : G = 2 ^ 1024
  o : O = 2 ^ 1074
section
variable {G O : Nat} {x y z : UInt64} {a b c : Int}
theorem big_eq (hG : G = 2 ^ 1024) : 2 ^ 54 * G = 2 ^ 1078 ∧ 2 ^ (1078 - 53) = 2 * G := by
  subst hG
  constructor
  · rw [← Nat.pow_add]
  · rw [show 1078 - 53 = 1024 + 1 by rfl, Nat.pow_succ, Nat.mul_comm]
theorem g_add (U : UG G O) (hx : Fv x a) (hy : Fv y b) (h : (a + b).natAbs ≤ 2 ^ 54 * G) : ∃ v, Fv (Float64.add x y) v ∧ -(G : Int) ≤ v - (a + b) ∧ v - (a + b) ≤ (G : Int) := by
  obtain ⟨hG, hO⟩ := U
  obtain ⟨e1, e2⟩ := big_eq hG
  obtain ⟨v, hv, hd⟩ := add_err (P := 1078) hx hy (by omega) (by omega) (by rw [← e1]; exact h)
  rw [e2] at hd
  exact ⟨v, hv, by omega, by omega⟩
theorem g_sub (U : UG G O) (hx : Fv x a) (hy : Fv y b) (h : (a - b).natAbs ≤ 2 ^ 54 * G) : ∃ v, Fv (Float64.sub x y) v ∧ -(G : Int) ≤ v - (a - b) ∧ v - (a - b) ≤ (G : Int) := by
  obtain ⟨hG, hO⟩ := U
  obtain ⟨e1, e2⟩ := big_eq hG
  obtain ⟨v, hv, hd⟩ := sub_err (P := 1078) hx hy (by omega) (by omega) (by rw [← e1]; exact h)
  rw [e2] at hd
  exact ⟨v, hv, by omega, by omega⟩
theorem g_mul (U : UG G O) (hx : Fv x a) (hy : Fv y b) (h : (a * b).natAbs ≤ O * (2 ^ 54 * G)) : ∃ v, Fv (Float64.mul x y) v ∧ (v * O - a * b).natAbs ≤ O * G := by
  obtain ⟨hG, hO⟩ := U
  obtain ⟨e1, e2⟩ := big_eq hG
  obtain ⟨v, hv, hd⟩ := mul_err (P := 1078) hx hy (by omega) (by omega) (by rw [← e1, ← hO]; exact h)
  rw [e2, ← hO, Nat.mul_left_comm] at hd
  have : ((2 : Int) ^ 1074) = ((2 ^ 1074 : Nat) : Int) := by simp
  rw [this, ← hO] at hd
  exact ⟨v, hv, by omega⟩
theorem g_fma (U : UG G O) (hx : Fv x a) (hy : Fv y b) (hz : Fv z c) (h : (a * b + c * O).natAbs ≤ O * (2 ^ 54 * G)) : ∃ v, Fv (Float64.fma x y z) v ∧ (v * O - (a * b + c * O)).natAbs ≤ O * G := by
  obtain ⟨hG, hO⟩ := U
  obtain ⟨e1, e2⟩ := big_eq hG
  have : ((2 : Int) ^ 1074) = ((2 ^ 1074 : Nat) : Int) := by simp
  obtain ⟨v, hv, hd⟩ := fma_err (P := 1078) hx hy hz (by omega) (by omega) (by rw [← e1, this, ← hO]; exact h)
  rw [e2, this, ← hO, Nat.mul_left_comm] at hd
  exact ⟨v, hv, by omega⟩
theorem g_div (U : UG G O) (hx : Fv x a) (hy : Fv y b) (hb : b ≠ 0) (h : a.natAbs * O ≤ b.natAbs * (2 ^ 54 * G)) : ∃ v, Fv (Float64.div x y) v ∧ (v * b - a * O).natAbs ≤ b.natAbs * G := by
  obtain ⟨hG, hO⟩ := U
  obtain ⟨e1, e2⟩ := big_eq hG
  have : ((2 : Int) ^ 1074) = ((2 ^ 1074 : Nat) : Int) := by simp
  obtain ⟨v, hv, hd⟩ := div_err (P := 1078) hx hy hb (by omega) (by omega) (by rw [← e1, ← hO]; exact h)
  rw [e2, this, ← hO, Nat.mul_left_comm] at hd
  exact ⟨v, hv, by omega⟩
end
theorem sq_mul_le {a b : Nat} (h : a ≤ b) : a * a ≤ b * b := Nat.mul_le_mul h h
theorem abs_le_of_mul {t : Int} {O K : Nat} (hO : 0 < O) (h : (t * O).natAbs ≤ K * O) : t.natAbs ≤ K := by
  rw [Int.natAbs_mul, Int.natAbs_natCast] at h
  exact Nat.le_of_mul_le_mul_right h hO
end Mine

end FL6
section FL7
open PySem PySem.W PySem.Calls PyProof.Rows
open PySem.Builtin.Math
set_option linter.unusedVariables false
set_option exponentiation.threshold 3000
namespace Mine
open PySem.Float64 (V Right dist infMag pack decode val sgn)
theorem ug : UG (2 ^ 1024) (2 ^ 1074) := ⟨rfl, rfl⟩
end Mine

end FL7
section FL8
open PySem PySem.W PySem.Calls PyProof.Rows
open PySem.Builtin.Math
set_option linter.unusedVariables false
set_option exponentiation.threshold 3000
namespace Mine
open PySem.Float64 (V Right dist infMag pack decode val sgn)
theorem gt_fv {x y : UInt64} {a b : Int} (hx : Fv x a) (hy : Fv y b) : Float64.gt x y = decide (b < a) := cmp_gt hx hy
theorem pow_pos_int (k : Nat) : (0 : Int) < 2 ^ k := Int.pow_pos (by decide)
theorem dy_lt {a b : Int} {k : Nat} : a * 2 ^ k < b * 2 ^ k ↔ a < b := Int.mul_lt_mul_right (pow_pos_int k)
theorem dy_inj {a b : Int} {k : Nat} : a * 2 ^ k = b * 2 ^ k ↔ a = b := ⟨fun h => Int.eq_of_mul_eq_mul_right (Int.ne_of_gt (pow_pos_int k)) h, fun h => by rw [h]⟩
theorem max_two {A B : UInt64} {n1 n2 k : Nat} (hA : Dy A (n1 : Int) k) (hB : Dy B (n2 : Int) k) : ∃ M : Nat, Dy (maxMagnitude [A, B]) (M : Int) k ∧ n1 ≤ M ∧ n2 ≤ M ∧ (M = n1 ∨ M = n2) := by
  have hm : maxMagnitude [A, B] = if Float64.gt B (if Float64.gt A (Float64.zero false) then A else Float64.zero false) then B else (if Float64.gt A (Float64.zero false) then A else Float64.zero false) := rfl
  have h0 : Dy (Float64.zero false) ((0 : Nat) : Int) k := dy_zero (fv_zero false) k
  have h1 : Dy (if Float64.gt A (Float64.zero false) then A else Float64.zero false) (n1 : Int) k := by
    rw [gt_fv hA h0]
    by_cases h : n1 = 0
    · subst h
      split
      · exact hA
      · exact h0
    · rw [decide_eq_true (dy_lt.mpr (by omega)), if_pos rfl]
      exact hA
  rw [hm]
  generalize (if Float64.gt A (Float64.zero false) then A else Float64.zero false) = m1 at *
  rw [gt_fv hB h1]
  by_cases h : n1 < n2
  · rw [decide_eq_true (dy_lt.mpr (by omega)), if_pos rfl]
    exact ⟨n2, hB, by omega, by omega, .inr rfl⟩
  · rw [decide_eq_false (fun h' => h (by have := dy_lt.mp h'; omega)), if_neg (by decide)]
    exact ⟨n1, h1, by omega, by omega, .inl rfl⟩
theorem fv_flags {x : UInt64} {v : Int} (h : Fv x v) : Float64.isInf x = false ∧ Float64.isNaN x = false ∧ Float64.isZero x = decide (v = 0) := by
  obtain ⟨s, m, e, hd, rfl⟩ := h
  refine ⟨by unfold Float64.isInf; rw [hd], by unfold Float64.isNaN; rw [hd], ?_⟩
  unfold Float64.isZero
  rw [hd, Float64.val_eq hd]
  cases m with
  | zero => simp [sgn_eq]
  | succ m =>
    have hp : 0 < (m + 1) * 2 ^ (e + 1074).toNat := Nat.mul_pos (by omega) (Nat.two_pow_pos _)
    generalize (m + 1) * 2 ^ (e + 1074).toNat = z at *
    symm
    apply decide_eq_false
    rw [sgn_eq]
    split <;> omega
theorem log_ex {M : Nat} (h : 0 < M) : ∃ L, 2 ^ L ≤ M ∧ M < 2 ^ (L + 1) := ⟨M.log2, Nat.log2_self_le (by omega), Nat.lt_log2_self⟩
theorem vec_two {A B : UInt64} {n1 n2 k : Nat} (hA : Dy A (n1 : Int) k) (hB : Dy B (n2 : Int) k) (hk : 102 ≤ k) :
    ∃ (big : UInt64) (M : Nat), Dy big (M : Int) k ∧ n1 ≤ M ∧ n2 ≤ M ∧ (M = n1 ∨ M = n2) ∧ vectorNorm [A, B] = if M = 0 then big else scaledNorm [A, B] big := by
  obtain ⟨M, hM, m1, m2, m3⟩ := max_two hA hB
  refine ⟨_, M, hM, m1, m2, m3, ?_⟩
  obtain ⟨f1, f2, f3⟩ := fv_flags hM
  obtain ⟨_, fA, _⟩ := fv_flags hA
  obtain ⟨_, fB, _⟩ := fv_flags hB
  unfold vectorNorm
  simp only [f1, f3, List.any_cons, List.any_nil, fA, fB, List.length_cons, List.length_nil]
  by_cases h : M = 0
  · subst h
    simp
  · have hz : decide ((M : Int) * 2 ^ k = 0) = false := by
      apply decide_eq_false
      have := Int.mul_pos (show (0 : Int) < M by omega) (pow_pos_int k)
      omega
    obtain ⟨L, hL1, hL2⟩ := log_ex (show 0 < M by omega)
    rw [hz, frexp_exp hM hL1 hL2, if_neg h]
    have hE : ¬ ((L + k : Int) - 1073 < -1023) := by omega
    simp [hE]
end Mine

end FL8
section FL9
open PySem PySem.W PySem.Calls PyProof.Rows
open PySem.Builtin.Math
set_option linter.unusedVariables false
set_option exponentiation.threshold 3000
namespace Mine
open PySem.Float64 (V Right dist infMag pack decode val sgn)
section
variable {G O : Nat} {x y z : UInt64}
theorem one_fv (U : UG G O) : Fv Float64.one (O : Int) := by
  have := dy_one (j := 0) (k := 1074) (by omega)
  unfold Dy at this
  rw [U.o, Int.natCast_pow]
  simpa using this
theorem og_pos (U : UG G O) : 0 < G ∧ O = 2 ^ 50 * G := ⟨by rw [U.g]; exact Nat.two_pow_pos _, by rw [U.o, U.g, ← Nat.pow_add]⟩
theorem dl_near {a : Int} (U : UG G O) (hx : Fv x a) (ha : a.natAbs ≤ 2 * O + G) (y : UInt64) (hy : Fv y a ∨ Fv y (-a)) :
    ∃ (z r : Int) (σ : Int), (σ = 1 ∨ σ = -1) ∧ (Fv y a → σ = 1) ∧ (Fv y (-a) → a ≠ 0 → σ = -1) ∧ Fv (dlMul y x).1 z ∧ Fv (dlMul y x).2 r ∧ -((O * G : Nat) : Int) ≤ z * O - σ * ((a.natAbs * a.natAbs : Nat) : Int) ∧ z * O - σ * ((a.natAbs * a.natAbs : Nat) : Int) ≤ ((O * G : Nat) : Int) ∧ -(2 * (G : Int)) ≤ r ∧ r ≤ 2 * (G : Int) := by
  obtain ⟨hG0, hOG⟩ := og_pos U
  have hO0 : 0 < O := by omega
  have e54 : O * (2 ^ 54 * G) = 2 ^ 54 * (O * G) := by ac_rfl
  have hsq := sq_mul_le ha
  have eOO : (2 * O + G) * (2 * O + G) ≤ 2 ^ 54 * (O * G) := by
    have h1 : (2 * O + G) * (2 * O + G) ≤ (3 * O) * (3 * O) := sq_mul_le (by omega)
    have h2 : 3 * O * (3 * O) = 9 * (O * O) := by rw [show (9 : Nat) = 3 * 3 by rfl]; ac_rfl
    have h3 : O * O = 2 ^ 50 * (O * G) := by conv => lhs; rhs; rw [hOG]
                                             ac_rfl
    omega
  have key : ∀ σ : Int, (σ = 1 ∨ σ = -1) → Fv y (σ * a) → ∃ (z r : Int), Fv (dlMul y x).1 z ∧ Fv (dlMul y x).2 r ∧ -((O * G : Nat) : Int) ≤ z * O - σ * ((a.natAbs * a.natAbs : Nat) : Int) ∧ z * O - σ * ((a.natAbs * a.natAbs : Nat) : Int) ≤ ((O * G : Nat) : Int) ∧ -(2 * (G : Int)) ≤ r ∧ r ≤ 2 * (G : Int) := by
    intro σ hσ hy
    have hs : σ * a * a = σ * ((a.natAbs * a.natAbs : Nat) : Int) := by rw [Int.mul_assoc, Int.natAbs_mul_self]
    generalize hm : a.natAbs * a.natAbs = m at *
    obtain ⟨z, hz, dz⟩ := g_mul U hy hx (by rw [hs, e54]; rcases hσ with rfl | rfl <;> omega)
    rw [hs] at dz
    obtain ⟨r, hr, dr⟩ := g_fma U hy hx (fv_neg hz) (by
      rw [hs, e54, Int.neg_mul]
      generalize z * (O : Int) = zO at *
      generalize σ * (m : Int) = sm at *
      omega)
    rw [hs, Int.neg_mul] at dr
    have br : r.natAbs ≤ 2 * G := by
      refine abs_le_of_mul hO0 ?_
      rw [show 2 * G * O = 2 * (O * G) by ac_rfl]
      generalize z * (O : Int) = zO at *
      generalize r * (O : Int) = rO at *
      generalize σ * (m : Int) = sm at *
      generalize O * G = OG at *
      omega
    exact ⟨z, r, hz, hr, by omega, by omega, by omega, by omega⟩
  rcases hy with hy | hy
  · obtain ⟨z, r, h⟩ := key 1 (.inl rfl) (by rw [Int.one_mul]; exact hy)
    refine ⟨z, r, 1, .inl rfl, fun _ => rfl, fun h2 h0 => ?_, h⟩
    have := fv_uniq hy h2
    omega
  · obtain ⟨z, r, h⟩ := key (-1) (.inr rfl) (by rw [Int.neg_one_mul]; exact hy)
    by_cases h0 : a = 0
    · subst h0
      refine ⟨z, r, 1, .inl rfl, fun _ => rfl, fun _ h => absurd rfl h, ?_⟩
      simpa using h
    · refine ⟨z, r, -1, .inr rfl, fun h2 => ?_, fun _ _ => rfl, h⟩
      have := fv_uniq hy h2
      omega
theorem step_near {c p r f1 f2 : UInt64} {C z ρ F1 F2 : Int} (U : UG G O) (hc : Fv c C) (hp : Fv p z) (hr : Fv r ρ) (h1 : Fv f1 F1) (h2 : Fv f2 F2) (bC : -(5 * (O : Int)) ≤ C) (bC' : C ≤ 5 * (O : Int)) (bz : -(5 * (O : Int)) ≤ z) (bz' : z ≤ 5 * (O : Int))
    (br : -(2 * (G : Int)) ≤ ρ) (br' : ρ ≤ 2 * (G : Int)) (b1 : -(90 * (G : Int)) ≤ F1) (b1' : F1 ≤ 90 * (G : Int)) (b2 : -(90 * (G : Int)) ≤ F2) (b2' : F2 ≤ 90 * (G : Int)) :
    ∃ C' F1' F2' : Int, Fv (stepN (c, f1, f2) (p, r)).1 C' ∧ Fv (stepN (c, f1, f2) (p, r)).2.1 F1' ∧ Fv (stepN (c, f1, f2) (p, r)).2.2 F2' ∧ -(G : Int) ≤ C' - (C + z) ∧ C' - (C + z) ≤ (G : Int) ∧
      -(3 * (G : Int)) ≤ F1' - F1 ∧ F1' - F1 ≤ 3 * (G : Int) ∧ -(4 * (G : Int)) ≤ F2' - F2 ∧ F2' - F2 ≤ 4 * (G : Int) := by
  obtain ⟨hG0, hOG⟩ := og_pos U
  obtain ⟨c1, hc1, d1, d1'⟩ := g_add U hc hp (by omega)
  obtain ⟨c2, hc2, d2, d2'⟩ := g_sub U hc hc1 (by omega)
  obtain ⟨c3, hc3, d3, d3'⟩ := g_add U hc2 hp (by omega)
  obtain ⟨g1, hg1, d4, d4'⟩ := g_add U h1 hr (by omega)
  obtain ⟨g2, hg2, d5, d5'⟩ := g_add U h2 hc3 (by omega)
  exact ⟨c1, g1, g2, hc1, hg1, hg2, d1, d1', by omega, by omega, by omega, by omega⟩
theorem tail_near {st : UInt64 × UInt64 × UInt64} {C F1 F2 : Int} (U : UG G O) (hc : Fv st.1 C) (h1 : Fv st.2.1 F1) (h2 : Fv st.2.2 F2) (bC : -(5 * (O : Int)) ≤ C) (bC' : C ≤ 5 * (O : Int))
    (b1 : -(90 * (G : Int)) ≤ F1) (b1' : F1 ≤ 90 * (G : Int)) (b2 : -(90 * (G : Int)) ≤ F2) (b2' : F2 ≤ 90 * (G : Int)) :
    ∃ S : Int, Fv (tailN st) S ∧ -(3 * (G : Int)) ≤ S - (C - O + F1 + F2) ∧ S - (C - O + F1 + F2) ≤ 3 * (G : Int) := by
  obtain ⟨hG0, hOG⟩ := og_pos U
  obtain ⟨x1, hx1, d6, d6'⟩ := g_sub U hc (one_fv U) (by omega)
  obtain ⟨x2, hx2, d7, d7'⟩ := g_add U h1 h2 (by omega)
  obtain ⟨X, hX, d8, d8'⟩ := g_add U hx1 hx2 (by omega)
  exact ⟨X, hX, by omega, by omega⟩
theorem head_near {a b : Nat} (U : UG G O) (hx : Fv x (a : Int)) (hy : Fv y (b : Int)) (ha : a ≤ O) (hb : b ≤ O) :
    ∃ C F1 F2 S : Int, Fv (headN x y).1 C ∧ Fv (headN x y).2.1 F1 ∧ Fv (headN x y).2.2 F2 ∧ Fv (tailN (headN x y)) S ∧ -(19 * (G : Int)) ≤ C - O - S ∧ C - O - S ≤ 19 * (G : Int) ∧
      -(6 * (G : Int)) ≤ F1 ∧ F1 ≤ 6 * (G : Int) ∧ -(8 * (G : Int)) ≤ F2 ∧ F2 ≤ 8 * (G : Int) ∧ -(21 * ((O * G : Nat) : Int)) ≤ S * O - ((a * a + b * b : Nat) : Int) ∧ S * O - ((a * a + b * b : Nat) : Int) ≤ 21 * ((O * G : Nat) : Int) := by
  obtain ⟨hG0, hOG⟩ := og_pos U
  have hO0 : 0 < O := by omega
  have bnd : ∀ {a : Nat} {z : Int}, a ≤ O → -((O * G : Nat) : Int) ≤ z * O - 1 * (((a : Int).natAbs * (a : Int).natAbs : Nat) : Int) → z * O - 1 * (((a : Int).natAbs * (a : Int).natAbs : Nat) : Int) ≤ ((O * G : Nat) : Int) → -(G : Int) ≤ z ∧ z ≤ O + G := by
    intro a z ha h1 h2
    rw [Int.natAbs_natCast] at h1 h2
    have h3 := sq_mul_le ha
    have e1 : ((O * G : Nat) : Int) = (G : Int) * O := by rw [Int.natCast_mul, Int.mul_comm]
    have e2 : ((O * O : Nat) : Int) = (O : Int) * O := Int.natCast_mul _ _
    have hOp : (0 : Int) < O := by omega
    constructor
    · refine Int.le_of_mul_le_mul_right (?_ : -(G : Int) * O ≤ z * O) hOp
      rw [Int.neg_mul, ← e1]
      generalize z * (O : Int) = zO at *
      omega
    · refine Int.le_of_mul_le_mul_right (?_ : z * O ≤ (O + G : Int) * O) hOp
      rw [Int.add_mul, ← e1, ← e2]
      generalize z * (O : Int) = zO at *
      omega
  obtain ⟨z1, r1, s1, _, k1, _, m1, m2, m3, m4, m5, m6⟩ := dl_near U hx (by omega) x (.inl hx)
  obtain ⟨z2, r2, s2, _, k2, _, n1, n2, n3, n4, n5, n6⟩ := dl_near U hy (by omega) y (.inl hy)
  rw [k1 hx] at m3 m4
  rw [k2 hy] at n3 n4
  obtain ⟨t1, t2⟩ := bnd ha m3 m4
  obtain ⟨t3, t4⟩ := bnd hb n3 n4
  obtain ⟨C1, P1, Q1, u1, u2, u3, v1, v2, v3, v4, v5, v6⟩ := step_near U (one_fv U) m1 m2 (fv_zero false) (fv_zero false) (by omega) (by omega) (by omega) (by omega) m5 m6 (by omega) (by omega) (by omega) (by omega)
  obtain ⟨C2, P2, Q2, u1', u2', u3', v1', v2', v3', v4', v5', v6'⟩ := step_near U u1 n1 n2 u2 u3 (by omega) (by omega) (by omega) (by omega) n5 n6 (by omega) (by omega) (by omega) (by omega)
  obtain ⟨S, hS, w1, w2⟩ := tail_near U (st := headN x y) u1' u2' u3' (by omega) (by omega) (by omega) (by omega) (by omega) (by omega)
  refine ⟨C2, P2, Q2, S, u1', u2', u3', hS, by omega, by omega, by omega, by omega, by omega, by omega, ?_⟩
  have hd : -(19 * (G : Int)) ≤ S - (z1 + z2) ∧ S - (z1 + z2) ≤ 19 * (G : Int) := ⟨by omega, by omega⟩
  have e1 : ((O * G : Nat) : Int) = (G : Int) * O := by rw [Int.natCast_mul, Int.mul_comm]
  have hOp : (0 : Int) ≤ O := by omega
  have l1 := Int.mul_le_mul_of_nonneg_right hd.1 hOp
  have l2 := Int.mul_le_mul_of_nonneg_right hd.2 hOp
  rw [Int.neg_mul, Int.mul_assoc, ← e1, Int.sub_mul, Int.add_mul] at l1
  rw [Int.mul_assoc, ← e1, Int.sub_mul, Int.add_mul] at l2
  rw [Int.natAbs_natCast] at m3 m4 n3 n4
  generalize S * (O : Int) = SO at *
  generalize z1 * (O : Int) = zO1 at *
  generalize z2 * (O : Int) = zO2 at *
  generalize O * G = OG at *
  generalize a * a = aa at *
  generalize b * b = bb at *
  constructor <;> omega
end
end Mine

end FL9
section FL10
open PySem PySem.W PySem.Calls PyProof.Rows
open PySem.Builtin.Math
set_option linter.unusedVariables false
set_option exponentiation.threshold 3000
namespace Mine
open PySem.Float64 (V Right dist infMag pack decode val sgn)
section
variable {G O : Nat} {x y z : UInt64}
theorem root_gen {G O v lo w : Nat} (hG : 0 < G) (hOG : O = 2 ^ 50 * G) (h1 : O ≤ 5 * v) (h2 : v ≤ 3 * O) (l1 : lo ≤ w) (l2 : w ≤ lo + G) (s1 : lo * lo ≤ v * O) (s2 : v * O < (lo + G) * (lo + G)) :
    w ≤ 2 * O + G ∧ O ≤ 3 * w + 3 * G ∧ w * w ≤ v * O + 5 * (O * G) ∧ v * O ≤ w * w + 5 * (O * G) := by
  have i1 : lo ≤ 2 * O := by
    refine sq_le (Nat.le_trans s1 ?_)
    have := Nat.mul_le_mul_right O h2
    have e : 2 * O * (2 * O) = 4 * (O * O) := by rw [show (4 : Nat) = 2 * 2 by rfl]; ac_rfl
    have e2 : 3 * O * O = 3 * (O * O) := by ac_rfl
    omega
  have i2 : O ≤ 3 * (lo + G) := by
    refine sq_le ?_
    have := Nat.mul_le_mul_right O h1
    have e : 3 * (lo + G) * (3 * (lo + G)) = 9 * ((lo + G) * (lo + G)) := by rw [show (9 : Nat) = 3 * 3 by rfl]; ac_rfl
    have e2 : 5 * v * O = 5 * (v * O) := by ac_rfl
    omega
  have e1 : (lo + G) * (lo + G) = lo * lo + 2 * (lo * G) + G * G := by
    rw [Nat.add_mul, Nat.mul_add, Nat.mul_add, Nat.mul_comm G lo]; omega
  have j1 := Nat.mul_le_mul_right G i1
  have e3 : 2 * O * G = 2 * (O * G) := by ac_rfl
  have j2 : G * G ≤ O * G := Nat.mul_le_mul_right G (by omega)
  have k1 := sq_mul_le l1
  have k2 := sq_mul_le l2
  refine ⟨by omega, by omega, by omega, by omega⟩
theorem sq_close2 {a b G K : Nat} (h : a ≤ b + 102 * G) (hb : b ≤ 3 * K) (hG : 102 * G ≤ K) : a * a ≤ b * b + 714 * (K * G) := by
  have h1 := sq_mul_le h
  have e1 : (b + 102 * G) * (b + 102 * G) = b * b + 204 * (b * G) + 102 * (102 * G * G) := by
    rw [Nat.add_mul, Nat.mul_add, Nat.mul_add, show b * (102 * G) = 102 * (b * G) by ac_rfl, show 102 * G * b = 102 * (b * G) by ac_rfl, show 102 * G * (102 * G) = 102 * (102 * G * G) by ac_rfl]
    omega
  have h2 := Nat.mul_le_mul_right G hb
  have h3 := Nat.mul_le_mul_right G hG
  rw [Nat.mul_assoc 3] at h2
  omega
set_option maxHeartbeats 0 in
theorem end_gen {st : UInt64 × UInt64 × UInt64} {S : UInt64} {v : Nat} {C F1 F2 : Int} (U : UG G O) (h1 : Fv st.1 C) (h2 : Fv st.2.1 F1) (h3 : Fv st.2.2 F2) (hS : Fv S (v : Int))
    (bC : -(19 * (G : Int)) ≤ C - O - v) (bC' : C - O - v ≤ 19 * (G : Int)) (b1 : -(6 * (G : Int)) ≤ F1) (b1' : F1 ≤ 6 * (G : Int)) (b2 : -(8 * (G : Int)) ≤ F2) (b2' : F2 ≤ 8 * (G : Int)) (v1 : O ≤ 5 * v) (v2 : v ≤ 3 * O) :
    ∃ H : Nat, Fv (endN st (Float64.sqrt S)) (H : Int) ∧ H ≤ 3 * O ∧ O ≤ 4 * H ∧ H * H ≤ v * O + 719 * (O * G) ∧ v * O ≤ H * H + 719 * (O * G) := by
  obtain ⟨hG0, hOG⟩ := og_pos U
  have hO0 : 0 < O := by omega
  obtain ⟨w, lo, hw, l1, l2, s1, s2⟩ := sqrt_err (j := 1022) hS (by omega) (by omega) (by
    rw [Int.natAbs_natCast, ← U.o, show 2 ^ (53 + 1022) = 2 * O by rw [U.o, ← Nat.pow_succ']]
    have := Nat.mul_le_mul_right O v2
    have e : 2 * O * (2 * O) = 4 * (O * O) := by rw [show (4 : Nat) = 2 * 2 by rfl]; ac_rfl
    have := Nat.mul_pos hO0 hO0
    have e2 : 3 * O * O = 3 * (O * O) := by ac_rfl
    omega)
  rw [Int.natAbs_natCast, ← U.o] at s1 s2
  have hq : (2 : Nat) ^ 1022 ≤ G := by rw [U.g]; exact Nat.pow_le_pow_right (by decide) (by decide)
  generalize (2 : Nat) ^ 1022 = Z at *
  obtain ⟨w1, w2, w3, w4⟩ := root_gen hG0 hOG v1 v2 l1 (by omega) s1 (Nat.lt_of_lt_of_le s2 (Nat.mul_le_mul (by omega) (by omega)))
  clear s1 s2 l1 l2 hq
  obtain ⟨z, r, s, _, _, k1, m1, m2, m3, m4, m5, m6⟩ := dl_near U hw (by rw [Int.natAbs_natCast]; omega) (Float64.neg (Float64.sqrt S)) (.inr (fv_neg hw))
  rw [k1 (fv_neg hw) (by omega), Int.natAbs_natCast] at m3 m4
  have bz : (z + v).natAbs ≤ 6 * G := by
    refine abs_le_of_mul hO0 ?_
    rw [Int.add_mul, ← Int.natCast_mul, show 6 * G * O = 6 * (O * G) by ac_rfl]
    generalize z * (O : Int) = zO at *
    generalize O * G = OG at *
    generalize w * w = ww at *
    generalize v * O = vO at *
    omega
  have bz1 : -(6 * (G : Int)) ≤ z + v := by omega
  have bz2 : z + v ≤ 6 * (G : Int) := by omega
  clear m3 m4 bz
  obtain ⟨C1, P1, Q1, u1, u2, u3, d1, d2, d3, d4, d5, d6⟩ := step_near U h1 m1 m2 h2 h3 (by omega) (by omega) (by omega) (by omega) m5 m6 (by omega) (by omega) (by omega) (by omega)
  obtain ⟨X, hX, t1, t2⟩ := tail_near U (st := stepN st (dlMul (Float64.neg (Float64.sqrt S)) (Float64.sqrt S))) u1 u2 u3 (by omega) (by omega) (by omega) (by omega) (by omega) (by omega)
  have bX : X.natAbs ≤ 50 * G := by omega
  clear t1 t2 d1 d2 d3 d4 d5 d6 bz1 bz2 m5 m6
  have two : Fv (Float64.ofInt 2) (2 * (O : Int)) := by
    have := dy_ofInt (i := 2) (by decide)
    rw [U.o, Int.natCast_pow]
    exact this
  obtain ⟨D, hD, dD⟩ := g_mul U two hw (by
    rw [Int.natAbs_mul, Int.natAbs_mul, Int.natAbs_natCast, Int.natAbs_natCast, show Int.natAbs 2 * O * w = O * (2 * w) by (rw [show Int.natAbs 2 = 2 by rfl]; ac_rfl)]
    exact Nat.mul_le_mul_left O (by omega))
  have bD : (D - 2 * w).natAbs ≤ G := by
    refine abs_le_of_mul hO0 ?_
    rw [Int.sub_mul, Nat.mul_comm G, show 2 * (w : Int) * O = 2 * O * w by ac_rfl]
    exact dD
  have D0 : 0 < D := by omega
  have D1 : O ≤ 2 * D.natAbs ∧ 0 < D := ⟨by omega, D0⟩
  have XO : X.natAbs * O ≤ 100 * (D.natAbs * G) := by
    have := Nat.mul_le_mul bX D1.1
    rw [show 50 * G * (2 * D.natAbs) = 100 * (D.natAbs * G) by (rw [show (100 : Nat) = 50 * 2 by rfl]; ac_rfl)] at this
    exact this
  obtain ⟨q, hq', dq⟩ := g_div U hX hD (by omega) (by
    rw [show D.natAbs * (2 ^ 54 * G) = 2 ^ 54 * (D.natAbs * G) by ac_rfl]
    omega)
  have bq : q.natAbs ≤ 101 * G := by
    refine Nat.le_of_mul_le_mul_right (c := D.natAbs) ?_ (by omega)
    rw [← Int.natAbs_mul]
    have t2 : (X * (O : Int)).natAbs = X.natAbs * O := by rw [Int.natAbs_mul, Int.natAbs_natCast]
    rw [show 101 * G * D.natAbs = 101 * (D.natAbs * G) by ac_rfl]
    generalize X * (O : Int) = XO at *
    generalize q * D = qD at *
    omega
  have w3' : w ≤ 2 * O + G := w1
  obtain ⟨H, hH, dH, dH'⟩ := g_add U hw hq' (by omega)
  clear bD D0 D1 bX dq
  have h102 : -(102 * (G : Int)) ≤ H - w := by omega
  have h102' : H - w ≤ 102 * (G : Int) := by omega
  have hHw : H.toNat ≤ w + 102 * G := by omega
  have hwH : w ≤ H.toNat + 102 * G := by omega
  have hHp : 0 ≤ H := by omega
  clear h102 h102' dH dH' bq
  refine ⟨H.toNat, ?_, by omega, by omega, ?_, ?_⟩
  · rw [Int.toNat_of_nonneg hHp]; exact hH
  · have := sq_close2 hHw (K := O) (by omega) (by omega)
    omega
  · have := sq_close2 hwH (K := O) (by omega) (by omega)
    omega
end
theorem dy_form {x : UInt64} {n k : Nat} (h : Dy x (n : Int) k) : ∃ q j, n = q * 2 ^ j ∧ q < 2 ^ 53 := by
  obtain ⟨q, e, h1, h2, _⟩ := fv_form h
  rw [natAbs_mul_pow, Int.natAbs_natCast] at h1
  by_cases he : k ≤ e
  · refine ⟨q, e - k, ?_, h2⟩
    have : n * 2 ^ k = q * 2 ^ (e - k) * 2 ^ k := by rw [h1, Nat.mul_assoc, ← Nat.pow_add, Nat.sub_add_cancel he]
    exact Nat.eq_of_mul_eq_mul_right (Nat.two_pow_pos k) this
  · refine ⟨n, 0, by simp, ?_⟩
    have : n * 2 ^ (k - e) = q := by
      refine Nat.eq_of_mul_eq_mul_right (Nat.two_pow_pos e) ?_
      rw [Nat.mul_assoc, ← Nat.pow_add, Nat.sub_add_cancel (by omega)]
      exact h1
    have h3 : n ≤ n * 2 ^ (k - e) := Nat.le_mul_of_pos_right _ (Nat.two_pow_pos _)
    omega
/-- times a power of two, exactly -/
theorem scale_dy {x s : UInt64} {n k L : Nat} (hx : Dy x (n : Int) k) (hs : Dy s 1 (2147 - L - k)) (hL : L ≤ 1073) (hk : k + L ≤ 2147) (hn : n < 2 ^ (L + 1)) : Dy (Float64.mul x s) (n : Int) (1073 - L) := by
  obtain ⟨q, j, e1, e2⟩ := dy_form hx
  by_cases h0 : n = 0
  · subst h0
    have := dy_mul (l := 1073 - L) hx hs (by decide) (by omega) (by omega)
    simpa using this
  have hj : j ≤ L := by
    have : 2 ^ j ≤ n := by rw [e1]; exact Nat.le_mul_of_pos_left _ (by rcases Nat.eq_zero_or_pos q with h | h; · subst h; simp at e1; omega
                                                                       · exact h)
    exact two_pow_between this hn
  have hpp : (n : Int) * 2 ^ k * (1 * 2 ^ (2147 - L - k)) = ((2 ^ 1074 * (n * 2 ^ (1073 - L)) : Nat) : Int) := by
    rw [Int.one_mul, Int.mul_assoc, ← Int.pow_add, Int.natCast_mul, Int.natCast_mul, Int.natCast_pow, Int.natCast_pow, show k + (2147 - L - k) = 1074 + (1073 - L) by omega, Int.pow_add, Int.mul_left_comm]
    rfl
  obtain ⟨v, hv, e3⟩ := mul_exact (q := q) (j := j + (1073 - L)) hx hs (by rw [hpp, Int.natAbs_natCast, e1, Nat.mul_assoc q, ← Nat.pow_add]) e2 (by omega)
  rw [hpp, Nat.mul_comm (2 ^ 1074), Int.natCast_mul _ (2 ^ 1074), Int.natCast_pow] at e3
  have : v = ((n * 2 ^ (1073 - L) : Nat) : Int) := Int.eq_of_mul_eq_mul_right (Int.ne_of_gt (pow_pos_int 1074)) e3
  rw [this, Int.natCast_mul, Int.natCast_pow] at hv
  exact hv
end Mine

end FL10
section FL11
open PySem PySem.W PySem.Calls PyProof.Rows
open PySem.Builtin.Math
set_option linter.unusedVariables false
set_option exponentiation.threshold 3000
namespace Mine
open PySem.Float64 (V Right dist infMag pack decode val sgn)
theorem fin2 {P h OG : Nat} (k1 : P ≤ h + 1460 * OG) (k2 : 281474976710656 * OG ≤ P) : P * 137438953471 ≤ h * 137438953472 := by omega
theorem dy_fv {x : UInt64} {n k : Nat} (h : Dy x (n : Int) k) : Fv x ((n * 2 ^ k : Nat) : Int) := by
  rw [Int.natCast_mul, Int.natCast_pow]; exact h
set_option maxHeartbeats 0 in
theorem scaled_gen {x y big : UInt64} {n1 n2 k L M : Nat} (hx : Dy x (n1 : Int) k) (hy : Dy y (n2 : Int) k) (hb : Dy big (M : Int) k) (hM1 : 2 ^ L ≤ M) (hM2 : M < 2 ^ (L + 1)) (h1 : n1 ≤ M) (h2 : n2 ≤ M)
    (hM : M = n1 ∨ M = n2) (hL : L ≤ 120) (hk1 : 102 ≤ k) (hk2 : k ≤ 1900) :
    ∃ R : Nat, Fv (scaledNorm [x, y] big) (R : Int) ∧ ∀ Z T O G : Nat, Z = 2 ^ (1073 - L) → T = 2 ^ (2147 - L - k) → UG G O →
      (R * T) * (R * T) * 2 ^ 37 ≤ (n1 * n1 + n2 * n2) * (Z * Z) * (O * O) * (2 ^ 37 + 1) ∧ (n1 * n1 + n2 * n2) * (Z * Z) * (O * O) * 137438953471 ≤ (R * T) * (R * T) * 2 ^ 37 := by
  rw [scaled2, frexp_exp hb hM1 hM2]
  dsimp only
  have hs := dy_ldexp_one (E := -((L + k : Int) - 1073)) (K := 2147 - L - k) (by omega) (by omega) (by omega)
  have hX := scale_dy hx hs (by omega) (by omega) (by omega)
  have hY := scale_dy hy hs (by omega) (by omega) (by omega)
  have eO : (2 : Nat) ^ 1074 = 2 ^ (L + 1) * 2 ^ (1073 - L) := by rw [← Nat.pow_add]; congr 1; omega
  have eO2 : (2 : Nat) ^ 1074 = 2 * (2 ^ L * 2 ^ (1073 - L)) := by rw [eO, Nat.pow_succ]; ac_rfl
  have U := ug
  generalize hO : (2 : Nat) ^ 1074 = O at *
  generalize hG : (2 : Nat) ^ 1024 = G at *
  have hX' := dy_fv hX
  have hY' := dy_fv hY
  have aX : n1 * 2 ^ (1073 - L) ≤ O := by rw [eO]; exact Nat.mul_le_mul_right _ (by omega)
  have aY : n2 * 2 ^ (1073 - L) ≤ O := by rw [eO]; exact Nat.mul_le_mul_right _ (by omega)
  obtain ⟨C, F1, F2, S, q1, q2, q3, q4, c1, c2, c3, c4, c5, c6, s1, s2⟩ := head_near U hX' hY' aX aY
  obtain ⟨hG0, hOG⟩ := og_pos U
  have hO0 : 0 < O := by omega
  have eP : n1 * 2 ^ (1073 - L) * (n1 * 2 ^ (1073 - L)) + n2 * 2 ^ (1073 - L) * (n2 * 2 ^ (1073 - L)) = (n1 * n1 + n2 * n2) * (2 ^ (1073 - L) * 2 ^ (1073 - L)) := by
    rw [Nat.add_mul]; congr 1 <;> ac_rfl
  have aM : O ≤ 2 * (M * 2 ^ (1073 - L)) := by rw [eO2]; exact Nat.mul_le_mul_left 2 (Nat.mul_le_mul_right _ hM1)
  have P1 : O * O ≤ 4 * (n1 * 2 ^ (1073 - L) * (n1 * 2 ^ (1073 - L)) + n2 * 2 ^ (1073 - L) * (n2 * 2 ^ (1073 - L))) := by
    have := sq_mul_le aM
    have e : 2 * (M * 2 ^ (1073 - L)) * (2 * (M * 2 ^ (1073 - L))) = 4 * (M * 2 ^ (1073 - L) * (M * 2 ^ (1073 - L))) := by rw [show (4 : Nat) = 2 * 2 by rfl]; ac_rfl
    rw [e] at this
    rcases hM with rfl | rfl
    · omega
    · omega
  have P2 : n1 * 2 ^ (1073 - L) * (n1 * 2 ^ (1073 - L)) + n2 * 2 ^ (1073 - L) * (n2 * 2 ^ (1073 - L)) ≤ 2 * (O * O) := by
    have := sq_mul_le aX
    have := sq_mul_le aY
    omega
  rw [eP] at s1 s2 P1 P2
  have eOO : O * O = 2 ^ 50 * (O * G) := by conv => lhs; rhs; rw [hOG]
                                            ac_rfl
  generalize hPP : (n1 * n1 + n2 * n2) * (2 ^ (1073 - L) * 2 ^ (1073 - L)) = P at *
  have S0 : 0 ≤ S := by
    rcases Int.lt_or_le S 0 with hlt | hge
    · exfalso
      have := Int.mul_neg_of_neg_of_pos hlt (show (0 : Int) < O by omega)
      generalize S * (O : Int) = SO at *
      generalize O * G = OG at *
      generalize O * O = OO at *
      omega
    · exact hge
  obtain ⟨v, rfl⟩ := Int.eq_ofNat_of_zero_le S0
  rw [← Int.natCast_mul] at s1 s2
  have v1 : O ≤ 5 * v := by
    refine Nat.le_of_mul_le_mul_right (c := O) ?_ hO0
    rw [Nat.mul_assoc]
    generalize v * O = vO at *
    generalize O * G = OG at *
    generalize O * O = OO at *
    omega
  have v2 : v ≤ 3 * O := by
    refine Nat.le_of_mul_le_mul_right (c := O) ?_ hO0
    rw [Nat.mul_assoc]
    generalize v * O = vO at *
    generalize O * G = OG at *
    generalize O * O = OO at *
    omega
  obtain ⟨H, hH, b1, b2, b3, b4⟩ := end_gen U q1 q2 q3 q4 (by omega) (by omega) (by omega) (by omega) (by omega) (by omega) v1 v2
  have hK : (1 : Int) * 2 ^ (2147 - L - k) = ((2 ^ (2147 - L - k) : Nat) : Int) := by rw [Int.one_mul, Int.natCast_pow]; rfl
  have hs' : Fv (Float64.ldexp Float64.one (-((L + k : Int) - 1073))) (((2 ^ (2147 - L - k) : Nat) : Int)) := by
    have := hs
    unfold Dy at this
    rw [hK] at this
    exact this
  have hKpos := Nat.two_pow_pos (2147 - L - k)
  have hP : 2 ^ (2147 - L - k) * 2 ^ (L + k + 3) = 4 * (O * O) := by
    rw [← hO, ← Nat.pow_add, show 2147 - L - k + (L + k + 3) = 2 + (1074 + 1074) by omega, Nat.pow_add, Nat.pow_add 2 1074]
  have hP2 : 2 ^ (2147 - L - k) * 2 ^ (L + k + 3 - 53) ≤ O * G := by
    rw [← hO, ← hG, ← Nat.pow_add, ← Nat.pow_add]
    exact Nat.pow_le_pow_right (by decide) (by omega)
  obtain ⟨R, hR, dR⟩ := div_err (P := L + k + 3) hH hs' (by omega) (by omega) (by omega) (by
    rw [Int.natAbs_natCast, Int.natAbs_natCast, hP, hO, ← Nat.mul_assoc]
    exact Nat.mul_le_mul_right _ (by omega))
  rw [Int.natAbs_natCast] at dR
  have e1 : ((2 : Int) ^ 1074) = ((2 ^ 1074 : Nat) : Int) := by simp
  rw [e1, hO, ← Int.natCast_mul] at dR
  have dR2 := Nat.le_trans dR hP2
  have hHG : G ≤ H := by omega
  have R0 : 0 ≤ R := by
    rcases Int.lt_or_le R 0 with hlt | hge
    · exfalso
      have := Int.mul_neg_of_neg_of_pos hlt (show (0 : Int) < ((2 ^ (2147 - L - k) : Nat) : Int) by omega)
      have hm := Nat.mul_le_mul_right O hHG
      rw [Nat.mul_comm G] at hm
      have := Nat.mul_pos hO0 hG0
      generalize R * ((2 ^ (2147 - L - k) : Nat) : Int) = RT at *
      generalize H * O = HO at *
      generalize O * G = OG at *
      omega
    · exact hge
  obtain ⟨r, rfl⟩ := Int.eq_ofNat_of_zero_le R0
  refine ⟨r, hR, fun Z T O' G' hZ hT U' => ?_⟩
  obtain rfl : O' = O := by rw [U'.o, hO]
  obtain rfl : G' = G := by rw [U'.g, hG]
  subst hZ
  rw [← hT] at dR2
  rw [hPP]
  rw [← Int.natCast_mul] at dR2
  clear dR hP2 hP eP hKpos hs' hs e1 R0 S0 hK
  have y1 : r * T ≤ (H + G') * O' := by
    rw [Nat.add_mul, Nat.mul_comm G']
    generalize r * T = Y at *
    generalize H * O' = HO at *
    generalize O' * G' = OG at *
    omega
  have y2 : (H - G') * O' ≤ r * T := by
    rw [Nat.sub_mul, Nat.mul_comm G']
    generalize r * T = Y at *
    generalize H * O' = HO at *
    generalize O' * G' = OG at *
    omega
  have z1 := sq_mul_le y1
  have z2 := sq_mul_le y2
  have w1 := sq_close2 (a := H + G') (b := H) (G := G') (K := O') (by omega) b1 (by omega)
  have w2 := sq_close2 (a := H) (b := H - G') (G := G') (K := O') (by omega) (by omega) (by omega)
  have f1 : (H + G') * O' * ((H + G') * O') = (H + G') * (H + G') * (O' * O') := by ac_rfl
  have f2 : (H - G') * O' * ((H - G') * O') = (H - G') * (H - G') * (O' * O') := by ac_rfl
  rw [f1] at z1
  rw [f2] at z2
  generalize r * T * (r * T) = YY at *
  have g1 : (H + G') * (H + G') * 2 ^ 37 ≤ P * (2 ^ 37 + 1) := by
    generalize (H + G') * (H + G') = h1 at *
    generalize H * H = HH at *
    generalize v * O' = vO at *
    generalize O' * G' = OG at *
    generalize O' * O' = OO at *
    omega
  have g2 : P * 137438953471 ≤ (H - G') * (H - G') * 2 ^ 37 := by
    generalize (H - G') * (H - G') = h1 at *
    generalize H * H = HH at *
    generalize v * O' = vO at *
    generalize O' * G' = OG at *
    generalize O' * O' = OO at *
    have k1 : P ≤ h1 + 1460 * OG := by omega
    have k2 : 281474976710656 * OG ≤ P := by omega
    exact fin2 k1 k2
  constructor
  · calc YY * 2 ^ 37 ≤ (H + G') * (H + G') * (O' * O') * 2 ^ 37 := Nat.mul_le_mul_right _ z1
      _ = (H + G') * (H + G') * 2 ^ 37 * (O' * O') := by ac_rfl
      _ ≤ P * (2 ^ 37 + 1) * (O' * O') := Nat.mul_le_mul_right _ g1
      _ = P * (O' * O') * (2 ^ 37 + 1) := by ac_rfl
  · calc P * (O' * O') * 137438953471 = P * 137438953471 * (O' * O') := by ac_rfl
      _ ≤ (H - G') * (H - G') * 2 ^ 37 * (O' * O') := Nat.mul_le_mul_right _ g2
      _ = (H - G') * (H - G') * (O' * O') * 2 ^ 37 := by ac_rfl
      _ ≤ YY * 2 ^ 37 := Nat.mul_le_mul_right _ z2
/-- the norm of any two floats of middling size: the square within 2^-37 -/
theorem norm_gen {A B : UInt64} {n1 n2 : Int} {k : Nat} (hA : Dy A n1 k) (hB : Dy B n2 k) (h1 : n1.natAbs < 2 ^ 120) (h2 : n2.natAbs < 2 ^ 120) (hk1 : 102 ≤ k) (hk2 : k ≤ 1900) :
    ∃ R : Nat, Fv (vectorNorm [Float64.abs A, Float64.abs B]) (R : Int) ∧ R * R * 2 ^ 37 ≤ (n1.natAbs * n1.natAbs + n2.natAbs * n2.natAbs) * (2 ^ k * 2 ^ k) * (2 ^ 37 + 1) ∧
      (n1.natAbs * n1.natAbs + n2.natAbs * n2.natAbs) * (2 ^ k * 2 ^ k) * 137438953471 ≤ R * R * 2 ^ 37 := by
  obtain ⟨big, M, hM, m1, m2, m3, hv⟩ := vec_two (dy_abs hA) (dy_abs hB) hk1
  rw [hv]
  by_cases h : M = 0
  · rw [if_pos h]
    subst h
    have z1 : n1.natAbs = 0 := by omega
    have z2 : n2.natAbs = 0 := by omega
    refine ⟨0, zero_dy hM, ?_, ?_⟩ <;> rw [z1, z2]
    · rw [Nat.zero_mul, Nat.zero_mul]; exact Nat.zero_le _
    · rw [Nat.zero_mul, Nat.zero_mul]; exact Nat.zero_le _
  · rw [if_neg h]
    obtain ⟨L, hL1, hL2⟩ := log_ex (show 0 < M by omega)
    have hL : L ≤ 119 := two_pow_between (b := 119) hL1 (by omega)
    obtain ⟨R, hR, hf⟩ := scaled_gen (dy_abs hA) (dy_abs hB) hM hL1 hL2 m1 m2 m3 (by omega) hk1 hk2
    obtain ⟨f1, f2⟩ := hf _ _ _ _ rfl rfl ug
    refine ⟨R, hR, ?_⟩
    generalize n1.natAbs * n1.natAbs + n2.natAbs * n2.natAbs = N at *
    have e1 : (2 : Nat) ^ (1073 - L) * 2 ^ (1073 - L) * (2 ^ 1074 * 2 ^ 1074) = 2 ^ k * 2 ^ k * (2 ^ (2147 - L - k) * 2 ^ (2147 - L - k)) := by
      rw [← Nat.pow_add, ← Nat.pow_add, ← Nat.pow_add, ← Nat.pow_add, ← Nat.pow_add, ← Nat.pow_add]
      congr 1
      omega
    have hTp := Nat.mul_pos (Nat.two_pow_pos (2147 - L - k)) (Nat.two_pow_pos (2147 - L - k))
    have e2 : R * 2 ^ (2147 - L - k) * (R * 2 ^ (2147 - L - k)) = R * R * (2 ^ (2147 - L - k) * 2 ^ (2147 - L - k)) := by ac_rfl
    rw [Nat.mul_assoc N, e1, e2] at f1 f2
    generalize (2 : Nat) ^ (2147 - L - k) * 2 ^ (2147 - L - k) = TT at *
    generalize (2 : Nat) ^ k * 2 ^ k = KK at *
    constructor
    · refine Nat.le_of_mul_le_mul_right (c := TT) ?_ hTp
      calc R * R * 2 ^ 37 * TT = R * R * TT * 2 ^ 37 := by ac_rfl
        _ ≤ _ := f1
        _ = N * KK * (2 ^ 37 + 1) * TT := by ac_rfl
    · refine Nat.le_of_mul_le_mul_right (c := TT) ?_ hTp
      calc N * KK * 137438953471 * TT = N * (KK * TT) * 137438953471 := by ac_rfl
        _ ≤ _ := f2
        _ = R * R * 2 ^ 37 * TT := by ac_rfl
end Mine

end FL11
section FLr
open PySem PySem.W PySem.Calls PyProof.Rows
open PySem.Builtin.Math (vectorNorm)
set_option linter.unusedVariables false
set_option exponentiation.threshold 3000
namespace Mine
open PySem.Float64 (V Right dist infMag pack decode val sgn)
theorem sgn_int (v : Int) : sgn (decide (v < 0)) v.natAbs = v := by
  rw [sgn_eq]
  by_cases hn : v < 0
  · rw [decide_eq_true hn, if_pos rfl]; omega
  · rw [decide_eq_false hn, if_neg (by decide)]; omega
theorem dy_frac {v : Int} {d j k : Nat} {neg : Bool} (hn : neg = decide (v < 0)) (hd : d = 2 ^ j) (hjk : k + j = 1074) (hv : v.natAbs < 2 ^ 53) : Dy (Float64.ofFrac neg v.natAbs d) v k := by
  subst hn hd
  have hr := Float64.ofFrac_right (neg := decide (v < 0)) (n := v.natAbs) (d := 2 ^ j) (W := v.natAbs * 2 ^ k) (D := 1) (Nat.two_pow_pos _) (by
    rw [Nat.mul_one, Nat.mul_assoc, ← Nat.pow_add, hjk]) (by decide)
  obtain ⟨t, ht, hlt, hV⟩ := right_exact (q := v.natAbs) (j := k) hr (by decide) (by rw [Nat.one_mul]) hv (by omega)
  rw [ht]
  have := fv_pack (decide (v < 0)) hlt
  rw [hV, sgn_add_pow, sgn_int] at this
  exact this
abbrev m8 (m : Int) : UInt64 := Float64.ofFrac (decide (m < 0) != decide ((8 : Int) < 0)) m.natAbs (Int.natAbs 8)
abbrev s600 (s : Int) : UInt64 := Float64.ofFrac (decide (s < 0) != decide ((2 : Int) ^ Int.toNat 600 < 0)) s.natAbs ((2 : Int) ^ Int.toNat 600).natAbs
theorem dy_m8 {m : Int} (h : -1048576 < m ∧ m < 1048576) : Dy (m8 m) m 1071 :=
  dy_frac (j := 3) (by rw [show decide ((8 : Int) < 0) = false by decide, Bool.bne_false]) (by decide) (by decide) (by omega)
theorem nz_abs {k : Int} (h : k.natAbs < 2 ^ 63) (h0 : k ≠ 0) : ¬ Float64.isZero (Float64.abs (Float64.ofInt k)) = true := by
  obtain ⟨t, ht, hle, hov, hn⟩ := Float64.ofInt_right k
  have hW : k.natAbs * 2 ^ 1074 ≤ 1 * (2 ^ 52 * 2 ^ 1085) := by
    rw [Nat.one_mul, ← Nat.pow_add, show 52 + 1085 = 63 + 1074 by rfl, Nat.pow_add]
    exact Nat.mul_le_mul_right _ (by omega)
  have hlt : t < infMag := Nat.lt_of_le_of_ne hle fun e => not_over (q := 2 ^ 52) (j := 1085) (by decide) hW (by decide) (by decide) (hov.mp e)
  obtain ⟨t0, _, hV0⟩ := repr_V 1074 1 (by decide) (by decide)
  have h1 := (hn hlt t0).1
  rw [hV0, Nat.one_mul, Nat.one_mul, Nat.one_mul] at h1
  have h2 : 2 ^ 1074 ≤ k.natAbs * 2 ^ 1074 := Nat.le_mul_of_pos_left _ (by omega)
  have h3 : 0 < (2 : Nat) ^ 1074 := Nat.two_pow_pos _
  have hVt : V t ≠ 0 := by
    intro e
    rw [e] at h1
    clear hW hov hn hV0 hle hlt
    generalize k.natAbs * 2 ^ 1074 = W at h1 h2
    generalize (2 : Nat) ^ 1074 = O at h1 h2 h3
    unfold Float64.dist at h1
    omega
  have hF := fv_abs (fv_pack (decide (k < 0)) hlt)
  rw [← ht] at hF
  rw [(fv_flags hF).2.2]
  intro h
  have := of_decide_eq_true h
  rw [Float64.sgn_natAbs] at this
  omega
theorem ab_le {a b : Int} {A B : Nat} (ha : a.natAbs ≤ A) (hb : b.natAbs ≤ B) : (a * b).natAbs ≤ A * B := by
  rw [Int.natAbs_mul]; exact Nat.mul_le_mul ha hb
theorem dy_wi {S : UInt64} {s w : Int} {k A B : Nat} (h : Dy S s k) (ha : s.natAbs ≤ A) (hb : w.natAbs ≤ B) (hAB : A * B < 2 ^ 53) (hB : B < 2 ^ 53) (hk : k ≤ 2000) : Dy (Float64.mul S (Float64.ofInt w)) (s * w) k :=
  dy_mul h (dy_ofInt (by omega)) (Nat.lt_of_le_of_lt (ab_le ha hb) hAB) (by omega) (by omega)
theorem dy_wa {S : UInt64} {s w : Int} {k A B : Nat} (h : Dy S s k) (ha : s.natAbs ≤ A) (hb : w.natAbs ≤ B) (hAB : A * B < 2 ^ 53) (hB : B < 2 ^ 53) (hk : k ≤ 2000) : Dy (Float64.mul S (Float64.abs (Float64.ofInt w))) (s * (w.natAbs : Int)) k :=
  dy_mul h (dy_abs (dy_ofInt (by omega))) (Nat.lt_of_le_of_lt (ab_le ha (by omega)) hAB) (by omega) (by omega)
end Mine

end FLr
section FL12
open PySem PySem.W PySem.Calls PyProof.Rows
open PySem.Builtin.Math
set_option linter.unusedVariables false
set_option exponentiation.threshold 3000
namespace Mine
open PySem.Float64 (V Right dist infMag pack decode val sgn)
theorem form_mul {v q i J : Nat} (hv : v = q * 2 ^ i) (hq : q < 2 ^ 53) (h : 2 ^ (52 + J) ≤ v) : ∃ t, v = t * 2 ^ J := by
  have h1 : v < 2 ^ (52 + i + 1) := by
    rw [hv, show 52 + i + 1 = 53 + i by omega, Nat.pow_add]
    exact Nat.mul_lt_mul_of_pos_right hq (Nat.two_pow_pos _)
  have h2 := two_pow_between h h1
  refine ⟨q * 2 ^ (i - J), ?_⟩
  rw [hv, Nat.mul_assoc, ← Nat.pow_add]
  congr 2
  omega
theorem fv_lat {x : UInt64} {v : Int} {J : Nat} (h : Fv x v) (hv : 2 ^ (52 + J) ≤ v.natAbs) : ∃ t : Int, v = t * 2 ^ J := by
  obtain ⟨q, i, e, hq, _⟩ := fv_form h
  obtain ⟨t, ht⟩ := form_mul e hq hv
  have e1 : ((2 : Int) ^ J) = ((2 ^ J : Nat) : Int) := by simp
  rcases Int.natAbs_eq v with h1 | h1
  · exact ⟨t, by rw [h1, ht, Int.natCast_mul, e1]⟩
  · exact ⟨-t, by rw [h1, ht, Int.natCast_mul, e1, Int.neg_mul]⟩
theorem lat {x : UInt64} {n : Int} {k s : Nat} (h : Dy x n k) (hn : 2 ^ (52 + s) ≤ n.natAbs) : ∃ t : Int, n = t * 2 ^ s := by
  obtain ⟨t, ht⟩ := fv_lat (J := s + k) h (by
    rw [natAbs_mul_pow, ← Nat.add_assoc, Nat.pow_add]
    exact Nat.mul_le_mul_right _ hn)
  refine ⟨t, ?_⟩
  rw [Int.pow_add, ← Int.mul_assoc] at ht
  exact dy_inj.mp ht
theorem ex_add {x y : UInt64} {a b t : Int} {k s : Nat} (hx : Dy x a k) (hy : Dy y b k) (h : a + b = t * 2 ^ s) (ht : t.natAbs ≤ 2 ^ 53) (hk : k + s ≤ 1900) : Dy (Float64.add x y) (a + b) k := by
  have e : (a * 2 ^ k + b * 2 ^ k).natAbs = t.natAbs * 2 ^ (s + k) := by
    rw [← Int.add_mul, h, Int.mul_assoc, ← Int.pow_add, natAbs_mul_pow]
  unfold Dy
  rw [Int.add_mul]
  by_cases h1 : t.natAbs < 2 ^ 53
  · exact add_exact hx hy e h1 (by omega)
  · have e2 : t.natAbs = 2 ^ 53 := by omega
    refine add_exact (q := 1) (j := 53 + (s + k)) hx hy ?_ (by decide) (by omega)
    rw [e, e2, ← Nat.pow_add, Nat.one_mul]
theorem ex_sub {x y : UInt64} {a b t : Int} {k s : Nat} (hx : Dy x a k) (hy : Dy y b k) (h : a - b = t * 2 ^ s) (ht : t.natAbs ≤ 2 ^ 53) (hk : k + s ≤ 1900) : Dy (Float64.sub x y) (a - b) k := by
  rw [sub_def]
  have := ex_add hx (dy_neg hy) (t := t) (s := s) (by omega) ht hk
  exact this
theorem back_nat {n m : Int} {k r : Nat} (h : 2 * (n * 2 ^ k - m * 2 ^ k).natAbs ≤ 2 ^ (r + k)) : 2 * (n - m).natAbs ≤ 2 ^ r := by
  rw [← Int.sub_mul, natAbs_mul_pow, Nat.pow_add, ← Nat.mul_assoc] at h
  exact Nat.le_of_mul_le_mul_right h (Nat.two_pow_pos _)
theorem rd_lat {x : UInt64} {v a : Int} {k r : Nat} (h : Fv x v) (he : 2 * (v - a * 2 ^ k).natAbs ≤ 2 ^ (r + k)) (hr : r ≤ 53) (ha : 2 ^ 53 ≤ a.natAbs) : ∃ n : Int, v = n * 2 ^ k ∧ 2 * (n - a).natAbs ≤ 2 ^ r := by
  have h1 : (2 : Nat) ^ (r + k) ≤ 2 ^ (53 + k) := Nat.pow_le_pow_right (by decide) (by omega)
  have h2 : 2 ^ (53 + k) ≤ (a * 2 ^ k).natAbs := by
    rw [natAbs_mul_pow, Nat.pow_add]
    exact Nat.mul_le_mul_right _ ha
  have h3 : (2 : Nat) ^ (53 + k) = 2 * 2 ^ (52 + k) := by rw [show 53 + k = 52 + k + 1 by omega, Nat.pow_succ, Nat.mul_comm]
  obtain ⟨n, rfl⟩ := fv_lat (J := k) h (by
    generalize a * 2 ^ k = A at *
    omega)
  exact ⟨n, rfl, back_nat he⟩
theorem nab {x : Int} {r : Nat} (h : 2 * x.natAbs ≤ 2 ^ r) : -2 ^ r ≤ 2 * x ∧ 2 * x ≤ 2 ^ r := by
  have e : ((2 : Int) ^ r) = ((2 ^ r : Nat) : Int) := by simp
  rw [e]
  generalize (2 : Nat) ^ r = z at *
  omega
theorem nab0 (r : Nat) : (-2 ^ r : Int) ≤ 2 * 0 ∧ 2 * 0 ≤ (2 : Int) ^ r := by
  have := pow_pos_int r
  omega
theorem rd_add {x y : UInt64} {a b : Int} {k r : Nat} (hx : Dy x a k) (hy : Dy y b k) (h : (a + b).natAbs ≤ 2 ^ (53 + r)) (hr : r ≤ 53) (hk : k ≤ 1900) : ∃ n : Int, Dy (Float64.add x y) n k ∧ -2 ^ r ≤ 2 * (n - (a + b)) ∧ 2 * (n - (a + b)) ≤ 2 ^ r := by
  by_cases h1 : (a + b).natAbs < 2 ^ 53
  · exact ⟨a + b, dy_add hx hy h1 (by omega), by rw [Int.sub_self]; exact nab0 r⟩
  · obtain ⟨v, hv, he⟩ := add_err (P := 53 + r + k) hx hy (by omega) (by omega) (by
      rw [← Int.add_mul, natAbs_mul_pow, Nat.pow_add]
      exact Nat.mul_le_mul_right _ h)
    rw [show 53 + r + k - 53 = r + k by omega, ← Int.add_mul] at he
    obtain ⟨n, rfl, hn⟩ := rd_lat hv he hr (by omega)
    exact ⟨n, hv, nab hn⟩
theorem fma_exact {x y z : UInt64} {a b c r : Int} {q j : Nat} (hx : Fv x a) (hy : Fv y b) (hz : Fv z c) (h : a * b + c * 2 ^ 1074 = r * 2 ^ 1074) (hr : r.natAbs = q * 2 ^ j) (hq : q < 2 ^ 53) (hj : j ≤ 2045) : Fv (Float64.fma x y z) r := by
  obtain ⟨s, m, e, hd, rfl⟩ := hx
  obtain ⟨s', m', e', hd', rfl⟩ := hy
  obtain ⟨s'', m'', e'', hd'', rfl⟩ := hz
  obtain ⟨h0, h1⟩ := fma_right hd hd' hd''
  have hp : (0 : Int) < 2 ^ 1074 := pow_pos_int 1074
  rw [h] at h0 h1
  by_cases hz : r = 0
  · subst hz
    exact h0 (Int.zero_mul _)
  · have hne : r * 2 ^ 1074 ≠ 0 := fun hh => by
      rcases Int.mul_eq_zero.mp hh with h' | h'
      · exact hz h'
      · omega
    obtain ⟨t, ht, hlt, hV⟩ := right_exact (h1 hne) (Nat.two_pow_pos _) (q := q) (j := j) (by rw [natAbs_mul_pow, hr, Nat.mul_comm]) hq hj
    rw [ht]
    have := fv_pack (decide (r * 2 ^ 1074 < 0)) hlt
    rw [hV, ← hr] at this
    have e2 : decide (r * 2 ^ 1074 < 0) = decide (r < 0) := by
      apply decide_eq_decide.mpr
      constructor
      · intro hh
        rcases Int.lt_or_le r 0 with h' | h'
        · exact h'
        · have := Int.mul_nonneg h' (Int.le_of_lt hp)
          omega
      · intro hh
        exact Int.mul_neg_of_neg_of_pos hh hp
    rw [e2] at this ⊢
    rw [sgn_int] at this
    exact this
theorem rd_dl {x y : UInt64} {a b : Int} {k r j i : Nat} (hx : Dy x a j) (hy : Dy y b i) (hji : j + i = 1074 + k) (h : (a * b).natAbs ≤ 2 ^ (53 + r)) (hr : r ≤ 53) (hk : k ≤ 1900) :
    ∃ n : Int, Dy (dlMul x y).1 n k ∧ Dy (dlMul x y).2 (a * b - n) k ∧ -2 ^ r ≤ 2 * (n - a * b) ∧ 2 * (n - a * b) ≤ 2 ^ r := by
  have hpi : (2 : Int) ^ j * 2 ^ i = 2 ^ 1074 * 2 ^ k := by rw [← Int.pow_add, hji, Int.pow_add]
  have e0 : a * 2 ^ j * (b * 2 ^ i) = a * b * 2 ^ k * 2 ^ 1074 := by
    calc a * 2 ^ j * (b * 2 ^ i) = a * b * (2 ^ j * 2 ^ i) := by ac_rfl
      _ = _ := by rw [hpi]; ac_rfl
  by_cases h1 : (a * b).natAbs < 2 ^ 53
  · obtain ⟨h2, h3⟩ := dl_mul hx hy h1 hji (by omega)
    refine ⟨a * b, h2, ?_, by rw [Int.sub_self]; exact nab0 r⟩
    rw [Int.sub_self]
    exact dy_zero h3 k
  · obtain ⟨v, hv, he⟩ := mul_err (P := 53 + r + k) hx hy (by omega) (by omega) (by
      rw [e0, natAbs_mul_pow, natAbs_mul_pow, Nat.pow_add, Nat.mul_comm (2 ^ 1074)]
      exact Nat.mul_le_mul_right _ (Nat.mul_le_mul_right _ h))
    rw [show 53 + r + k - 53 = r + k by omega, e0, ← Int.sub_mul, natAbs_mul_pow, ← Nat.mul_assoc, Nat.mul_comm (2 ^ 1074)] at he
    have he := Nat.le_of_mul_le_mul_right he (Nat.two_pow_pos _)
    obtain ⟨n, rfl, hn⟩ := rd_lat hv he hr (by omega)
    refine ⟨n, hv, ?_, nab hn⟩
    have hr2 : (2 : Nat) ^ r ≤ 2 ^ 53 := Nat.pow_le_pow_right (by decide) hr
    refine fma_exact (q := (a * b - n).natAbs) (j := k) hx hy (dy_neg hv) ?_ (natAbs_mul_pow _ _) (by omega) (by omega)
    rw [e0, ← Int.add_mul, ← Int.add_mul]
    rfl
theorem rd_step {c f1 f2 p r : UInt64} {C P R F1 F2 n a : Int} {k s : Nat} (hc : Dy c C k) (hp : Dy p P k) (hr : Dy r R k) (h1 : Dy f1 F1 k) (h2 : Dy f2 F2 k) (hn : Dy (Float64.add c p) n k)
    (hs : C - n = a * 2 ^ s) (ha : a.natAbs ≤ 2 ^ 53) (hk : k + s ≤ 1900) (b0 : (C - n + P).natAbs < 2 ^ 53) (b1 : (F1 + R).natAbs < 2 ^ 53) (b2 : (F2 + (C - n + P)).natAbs < 2 ^ 53) :
    Dy (stepN (c, f1, f2) (p, r)).1 n k ∧ Dy (stepN (c, f1, f2) (p, r)).2.1 (F1 + R) k ∧ Dy (stepN (c, f1, f2) (p, r)).2.2 (F2 + (C - n + P)) k := by
  have e2 := ex_sub hc hn hs ha hk
  have e3 := dy_add e2 hp b0 (by omega)
  exact ⟨hn, dy_add h1 hr b1 (by omega), dy_add h2 e3 b2 (by omega)⟩
theorem below {a : Nat} (h : a < 2 ^ 37) : a * a ≤ 2 ^ 74 - 2 ^ 38 + 1 := by
  have := sq_mul_le (show a ≤ 2 ^ 37 - 1 by omega)
  omega
theorem above {a : Nat} (h : 2 ^ 36 ≤ a) : 2 ^ 72 ≤ a * a := by
  have := sq_mul_le h
  omega
theorem one1000 : Dy Float64.one (2 ^ 74) 1000 := dy_one rfl
theorem head_ex {x y : UInt64} {a b : Nat} (hx : Dy x (a : Int) 1037) (hy : Dy y (b : Int) 1037) (ha : a < 2 ^ 37) (hb : b < 2 ^ 37) (hm : 2 ^ 36 ≤ a ∨ 2 ^ 36 ≤ b) :
    ∃ s f1 f2 t : Int, Dy (headN x y).1 s 1000 ∧ Dy (headN x y).2.1 f1 1000 ∧ Dy (headN x y).2.2 f2 1000 ∧ s = t * 2 ^ 22 ∧ s + (f1 + f2) = 2 ^ 74 + ((a * a + b * b : Nat) : Int) ∧ (-2 ^ 24 ≤ f1 ∧ f1 ≤ 2 ^ 24) ∧ (-2 ^ 24 ≤ f2 ∧ f2 ≤ 2 ^ 24) := by
  have A := below ha
  have B := below hb
  have hAB : 2 ^ 72 ≤ a * a + b * b := by
    rcases hm with h | h <;> have := above h <;> omega
  obtain ⟨p, hp, hp', ep, ep'⟩ := rd_dl (k := 1000) (r := 21) hx hx rfl (by rw [← Int.natCast_mul, Int.natAbs_natCast]; omega) (by decide) (by decide)
  obtain ⟨q, hq, hq', eq, eq'⟩ := rd_dl (k := 1000) (r := 21) hy hy rfl (by rw [← Int.natCast_mul, Int.natAbs_natCast]; omega) (by decide) (by decide)
  rw [← Int.natCast_mul] at hp' hq' ep eq ep' eq'
  generalize a * a = aa at *
  generalize b * b = bb at *
  obtain ⟨s, hs, es, es'⟩ := rd_add (r := 22) one1000 hp (by omega) (by decide) (by decide)
  obtain ⟨ts, hts⟩ := lat (s := 21) hs (by omega)
  obtain ⟨g1, g2, g3⟩ := rd_step (R := aa - p) (F1 := 0) (F2 := 0) (a := 2 ^ 53 - ts) (s := 21) one1000 hp hp' (dy_zero (fv_zero false) _) (dy_zero (fv_zero false) _) hs (by omega) (by omega) (by decide) (by omega) (by omega) (by omega)
  obtain ⟨u, hu, eu, eu'⟩ := rd_add (r := 23) g1 hq (by omega) (by decide) (by decide)
  obtain ⟨tu, htu⟩ := lat (s := 22) hu (by omega)
  obtain ⟨k1, k2, k3⟩ := rd_step (R := bb - q) (a := ts - 2 * tu) (s := 21) g1 hq hq' g2 g3 hu (by omega) (by omega) (by decide) (by omega) (by omega) (by omega)
  exact ⟨u, _, _, tu, k1, k2, k3, htu, by omega, by omega, by omega⟩
theorem tail_ex {st : UInt64 × UInt64 × UInt64} {s f1 f2 t N : Int} (h1 : Dy st.1 s 1000) (h2 : Dy st.2.1 f1 1000) (h3 : Dy st.2.2 f2 1000) (hs : s = t * 2 ^ 22) (e : s + (f1 + f2) = 2 ^ 74 + N) (b1 : -2 ^ 24 ≤ f1 ∧ f1 ≤ 2 ^ 24) (b2 : -2 ^ 24 ≤ f2 ∧ f2 ≤ 2 ^ 24)
    (hN : 0 ≤ N) (hN2 : N ≤ 2 * (2 ^ 74 - 2 ^ 38 + 1)) : Dy (Float64.sub st.1 Float64.one) (s - 2 ^ 74) 1000 ∧ Dy (Float64.add st.2.1 st.2.2) (f1 + f2) 1000 ∧ s - 2 ^ 74 + (f1 + f2) = N :=
  ⟨ex_sub (t := t - 2 ^ 52) (s := 22) h1 one1000 (by omega) (by omega) (by decide), dy_add h2 h3 (by omega) (by decide), by omega⟩
theorem end_ex {st : UInt64 × UInt64 × UInt64} {h : UInt64} {s f1 f2 t : Int} {c : Nat} (h1 : Dy st.1 s 1000) (h2 : Dy st.2.1 f1 1000) (h3 : Dy st.2.2 f2 1000) (hs : s = t * 2 ^ 22) (e : s + (f1 + f2) = 2 ^ 74 + ((c * c : Nat) : Int)) (b1 : -2 ^ 24 ≤ f1 ∧ f1 ≤ 2 ^ 24) (b2 : -2 ^ 24 ≤ f2 ∧ f2 ≤ 2 ^ 24)
    (hh : Dy h (c : Int) 1037) (c0 : 2 ^ 36 ≤ c) (c1 : c * c ≤ 2 * (2 ^ 74 - 2 ^ 38 + 1)) : Dy (endN st h) (c : Int) 1037 := by
  have cc := above c0
  have c3 : c < 2 ^ 38 := by
    rcases Nat.lt_or_ge c (2 ^ 38) with h | h
    · exact h
    · have := sq_mul_le h
      omega
  obtain ⟨p, hp, hp', ep, ep'⟩ := rd_dl (k := 1000) (r := 22) (dy_neg hh) hh rfl (by rw [Int.neg_mul, Int.natAbs_neg, ← Int.natCast_mul, Int.natAbs_natCast]; omega) (by decide) (by decide)
  rw [Int.neg_mul, ← Int.natCast_mul] at hp' ep ep'
  have hc0 : 0 < c := by omega
  generalize c * c = N at *
  obtain ⟨u, hu, eu, eu'⟩ := rd_add (r := 22) h1 hp (by omega) (by decide) (by decide)
  obtain ⟨tu, htu⟩ := lat (s := 21) hu (by omega)
  have key : ∃ (a : Int) (z : Nat), s - u = a * 2 ^ z ∧ a.natAbs ≤ 2 ^ 53 ∧ 1000 + z ≤ 1900 := by
    by_cases hb : 2 ^ 74 ≤ p.natAbs
    · obtain ⟨tp, htp⟩ := lat (s := 22) hp hb
      have ex := ex_add (t := t + tp) (s := 22) h1 hp (by omega) (by omega) (by decide)
      have := dy_inj.mp (fv_uniq ex hu)
      exact ⟨-tp, 22, by omega, by omega, by decide⟩
    · obtain ⟨tp, htp⟩ := lat (s := 19) hp (by omega)
      exact ⟨2 * t - tu, 21, by omega, by omega, by decide⟩
  obtain ⟨a, z, ha, ha2, hz⟩ := key
  obtain ⟨k1, k2, k3⟩ := rd_step h1 hp hp' h2 h3 hu ha ha2 hz (by omega) (by omega) (by omega)
  have t1 := ex_sub (t := tu - 2 ^ 53) (s := 21) k1 one1000 (by omega) (by omega) (by decide)
  have t2 := dy_add k2 k3 (by omega) (by decide)
  have t3 := dy_add t1 t2 (by omega) (by decide)
  have ez : u - 2 ^ 74 + (f1 + (-(N : Int) - p) + (f2 + (s - u + p))) = 0 := by omega
  rw [ez] at t3
  have two := dy_ofInt (i := 2) (by decide)
  have m2 := dy_mul (l := 1037) two hh (by omega) (by omega) (by omega)
  have q0 := dy_div (c := 0) (j := 1037) (l := 1074) (by rw [Int.zero_mul]; exact dy_zero (zero_dy t3) _) m2 (by omega) (by decide) (by omega) (by omega)
  have r0 := dy_add hh (dy_zero (zero_dy q0) 1037) (by omega) (by omega)
  rw [Int.add_zero] at r0
  exact r0
end Mine

end FL12
section FL14
open PySem PySem.W PySem.Calls PyProof.Rows
open PySem.Builtin.Math
set_option linter.unusedVariables false
set_option exponentiation.threshold 3000
namespace Mine
open PySem.Float64 (V Right dist infMag pack decode val sgn)
theorem pow_cat {a b c : Nat} (h : a + b = c) : (2 : Nat) ^ a * 2 ^ b = 2 ^ c := by rw [← Nat.pow_add, h]
theorem V_form {t : Nat} (h : t < infMag) : ∃ q i, V t = q * 2 ^ i ∧ q < 2 ^ 53 := by
  obtain ⟨q, i, e, hq, _⟩ := fv_form (fv_pack false h)
  rw [sgn_eq, if_neg (by decide), Int.natAbs_natCast] at e
  exact ⟨q, i, e, hq⟩
theorem off_aux {r b z v H : Nat} (hv : v = r * z) (hH : H = b * z) (hne : v ≠ H) : v + z ≤ H ∨ H + z ≤ v := by
  subst hv hH
  rcases Nat.lt_or_ge r b with h2 | h2
  · left
    have := Nat.mul_le_mul_right z (show r + 1 ≤ b by omega)
    rw [Nat.add_mul, Nat.one_mul] at this
    exact this
  · right
    have h3 : r ≠ b := fun hh => hne (by rw [hh])
    have := Nat.mul_le_mul_right z (show b + 1 ≤ r by omega)
    rw [Nat.add_mul, Nat.one_mul] at this
    exact this
theorem off_aux2 {u w w' p c v : Nat} (h : ¬ u ≤ v) (hu : u = p * w) (hw : w' ≤ w) (hp : p < c) : v + w' ≤ c * w := by
  have := Nat.mul_le_mul_right w (show p + 1 ≤ c by omega)
  rw [Nat.add_mul, Nat.one_mul] at this
  omega
/-- a float that is not c * 2^1037 lies a full step off it -/
theorem step_off {c m t : Nat} (h1 : 2 ^ m < c) (hm : m ≤ 52) (ht : t < infMag) (hne : V t ≠ c * 2 ^ 1037) : V t + 2 ^ (m + 985) ≤ c * 2 ^ 1037 ∨ c * 2 ^ 1037 + 2 ^ (m + 985) ≤ V t := by
  obtain ⟨q, i, e, hq⟩ := V_form ht
  by_cases h : 2 ^ (52 + (m + 985)) ≤ V t
  · obtain ⟨r, hr⟩ := form_mul e hq h
    exact off_aux (b := c * 2 ^ (52 - m)) hr (by rw [Nat.mul_assoc, pow_cat (c := 1037) (by omega)]) hne
  · exact .inl (off_aux2 h (pow_cat (by omega)).symm (Nat.pow_le_pow_right (by decide) (by omega)) h1)
theorem sqrt_gap {x : UInt64} {S c m γ : Nat} (hx : Dy x (S : Int) 1000) (hS : 0 < S) (h1 : 2 ^ m < c) (h2 : c < 2 ^ 38) (hm : m = 36 ∧ γ = 1 ∨ m = 37 ∧ γ = 2)
    (lo : c * c < S + (c * γ - 1) / 65536) (hi : S ≤ c * c + c * γ / 65536) : Dy (Float64.sqrt x) (c : Int) 1037 := by
  have hz : (0 : Int) < (S : Int) * 2 ^ 1000 := Int.mul_pos (by omega) (pow_pos_int _)
  obtain ⟨mm, e, hd, hmm, hv⟩ := fv_pos hx hz
  obtain ⟨t, ht, hlt, hup, hdn⟩ := Float64.sqrt_right hd hmm
  obtain ⟨a, ha, hVa⟩ := repr_V 1037 c (by omega) (by decide)
  rw [hv, natAbs_mul_pow, Int.natAbs_natCast] at hup hdn
  have eG : ((2 : Nat) ^ 1000 * 2 ^ 1074) = 2 ^ 32 * (2 ^ 1021 * 2 ^ 1021) := by
    have q1 := pow_cat (a := 1000) (b := 1074) (c := 2074) rfl
    have q2 := pow_cat (a := 1021) (b := 1021) (c := 2042) rfl
    have q3 := pow_cat (a := 32) (b := 2042) (c := 2074) rfl
    exact q1.trans (q3.symm.trans (congrArg (2 ^ 32 * ·) q2.symm))
  have eH : (2 : Nat) ^ 1037 = 65536 * 2 ^ 1021 := by rw [show (65536 : Nat) = 2 ^ 16 by rfl, pow_cat rfl]
  have eg : (2 : Nat) ^ (m + 985) = γ * 2 ^ 1021 := by
    rcases hm with ⟨rfl, rfl⟩ | ⟨rfl, rfl⟩
    · rw [Nat.one_mul]
    · rw [show (37 + 985 : Nat) = 1021 + 1 by rfl, Nat.pow_succ, Nat.mul_comm]
  have hm' : m ≤ 52 := by omega
  have hoff := fun hne => step_off h1 hm' hlt (t := t) hne
  have key : V t = c * 2 ^ 1037 := by
    apply Decidable.byContradiction
    intro hne
    have hoff := hoff hne
    rw [eH, eg, ← Nat.mul_assoc] at hoff
    rw [Nat.mul_assoc, eG] at hup hdn
    rw [eH, ← Nat.mul_assoc] at hVa
    have hG := Nat.two_pow_pos 1021
    generalize (2 : Nat) ^ 1021 = G at *
    have hGG := Nat.mul_pos hG hG
    have ef : 4 * (S * (2 ^ 32 * (G * G))) = S * 17179869184 * (G * G) := by
      rw [show (17179869184 : Nat) = 4 * 2 ^ 32 by rfl]; ac_rfl
    rw [ef] at hup hdn
    have g1 : c * γ ≤ c * 65536 := Nat.mul_le_mul_left _ (by omega)
    rcases hoff with h | h
    · have hta : t < a := by
        rcases Nat.lt_or_ge t a with h' | h'
        · exact h'
        · exfalso
          have : V a ≤ V t := by
            rcases Nat.eq_or_lt_of_le h' with rfl | h''
            · exact Nat.le_refl _
            · exact Nat.le_of_lt (Float64.V_lt h'')
          have : 0 < γ * G := Nat.mul_pos (by omega) hG
          omega
      have h3 := hup a hta
      have h4 : V t + V a ≤ (2 * (c * 65536) - γ) * G := by
        rw [Nat.sub_mul, Nat.mul_assoc 2]
        omega
      have h5 := Nat.le_trans h3 (sq_mul_le h4)
      have e5 : (2 * (c * 65536) - γ) * G * ((2 * (c * 65536) - γ) * G) = (2 * (c * 65536) - γ) * (2 * (c * 65536) - γ) * (G * G) := by ac_rfl
      rw [e5] at h5
      have h6 := Nat.le_of_mul_le_mul_right h5 hGG
      have e6 : ((2 * (c * 65536) - γ) * (2 * (c * 65536) - γ) : Nat) + 4 * 65536 * (c * γ) = c * c * 17179869184 + γ * γ := by
        have hb : γ ≤ 2 * (c * 65536) := by omega
        have hb' : ((2 * (c * 65536) - γ : Nat) : Int) = 2 * (c * 65536) - γ := by omega
        have : (((2 * (c * 65536) - γ) * (2 * (c * 65536) - γ) : Nat) : Int) + 4 * 65536 * (c * γ) = c * c * 17179869184 + γ * γ := by
          rw [Int.natCast_mul, hb']
          rw [Int.sub_mul, Int.mul_sub, Int.mul_sub]
          have q1 : (2 : Int) * (c * 65536) * (2 * (c * 65536)) = c * c * 17179869184 := by
            rw [show (17179869184 : Int) = 2 * 65536 * (2 * 65536) by rfl]; ac_rfl
          have q2 : (2 : Int) * (c * 65536) * γ = c * γ * 131072 := by
            rw [show (131072 : Int) = 2 * 65536 by rfl]; ac_rfl
          have q3 : (γ : Int) * (2 * (c * 65536)) = c * γ * 131072 := by
            rw [show (131072 : Int) = 2 * 65536 by rfl]; ac_rfl
          rw [q1, q2, q3]
          omega
        have e7 : ((c * γ : Nat) : Int) = (c : Int) * γ := Int.natCast_mul _ _
        have e8 : ((c * c : Nat) : Int) = (c : Int) * c := Int.natCast_mul _ _
        have e9 : ((γ * γ : Nat) : Int) = (γ : Int) * γ := Int.natCast_mul _ _
        generalize (2 * (c * 65536) - γ) * (2 * (c * 65536) - γ) = Q at *
        omega
      have h7 : γ * γ ≤ 4 := by rcases hm with ⟨_, rfl⟩ | ⟨_, rfl⟩ <;> decide
      generalize (2 * (c * 65536) - γ) * (2 * (c * 65536) - γ) = Q at *
      generalize c * γ = cg at *
      generalize c * c = cc at *
      generalize γ * γ = gg at *
      omega
    · have hta : a < t := by
        rcases Nat.lt_or_ge a t with h' | h'
        · exact h'
        · exfalso
          have : V t ≤ V a := by
            rcases Nat.eq_or_lt_of_le h' with rfl | h''
            · exact Nat.le_refl _
            · exact Nat.le_of_lt (Float64.V_lt h'')
          have : 0 < γ * G := Nat.mul_pos (by omega) hG
          omega
      have h3 := hdn a hta
      have h4 : (2 * (c * 65536) + γ) * G ≤ V t + V a := by
        rw [Nat.add_mul, Nat.mul_assoc 2]
        omega
      have h5 := Nat.le_trans (sq_mul_le h4) h3
      have e5 : (2 * (c * 65536) + γ) * G * ((2 * (c * 65536) + γ) * G) = (2 * (c * 65536) + γ) * (2 * (c * 65536) + γ) * (G * G) := by ac_rfl
      rw [e5] at h5
      have h6 := Nat.le_of_mul_le_mul_right h5 hGG
      have e6 : ((2 * (c * 65536) + γ) * (2 * (c * 65536) + γ) : Nat) = c * c * 17179869184 + c * γ * 262144 + γ * γ := by
        rw [Nat.add_mul, Nat.mul_add, Nat.mul_add]
        have q1 : 2 * (c * 65536) * (2 * (c * 65536)) = c * c * 17179869184 := by
          rw [show (17179869184 : Nat) = 2 * 65536 * (2 * 65536) by rfl]; ac_rfl
        have q2 : 2 * (c * 65536) * γ = c * γ * 131072 := by
          rw [show (131072 : Nat) = 2 * 65536 by rfl]; ac_rfl
        have q3 : γ * (2 * (c * 65536)) = c * γ * 131072 := by
          rw [show (131072 : Nat) = 2 * 65536 by rfl]; ac_rfl
        rw [q1, q2, q3]
        omega
      rw [e6] at h6
      have h7 : 0 < γ * γ := Nat.mul_pos (by omega) (by omega)
      generalize c * γ = cg at *
      generalize c * c = cc at *
      generalize γ * γ = gg at *
      omega
  rw [ht]
  have := fv_pack false hlt
  rw [sgn_eq, if_neg (by decide), key, Int.natCast_mul, Int.natCast_pow] at this
  exact this
end Mine

end FL14
section FL13
open PySem PySem.W PySem.Calls PyProof.Rows
open PySem.Builtin.Math
set_option linter.unusedVariables false
set_option exponentiation.threshold 3000
namespace Mine
open PySem.Float64 (V Right dist infMag pack decode val sgn)
theorem cc_bnd {c : Nat} (h : c * c ≤ 2 * (2 ^ 74 - 2 ^ 38 + 1)) : c < 2 ^ 38 := by
  rcases Nat.lt_or_ge c (2 ^ 38) with h' | h'
  · exact h'
  · have := sq_mul_le h'
    omega
theorem sqrt_cc {x y : UInt64} {p q : Int} {c : Nat} (hx : Dy x p 1000) (hy : Dy y q 1000) (e : p + q = ((c * c : Nat) : Int)) (c0 : 2 ^ 36 ≤ c) (c1 : c * c ≤ 2 * (2 ^ 74 - 2 ^ 38 + 1)) : Dy (Float64.sqrt (Float64.add x y)) (c : Int) 1037 := by
  have c3 := cc_bnd c1
  have hcc := above c0
  by_cases ec : c = 2 ^ 36 ∨ c = 2 ^ 37
  · have ha : Dy (Float64.add x y) ((c * c : Nat) : Int) 1000 := by
      rw [← e]
      rcases ec with rfl | rfl
      · exact ex_add (t := 1) (s := 72) hx hy (by omega) (by decide) (by decide)
      · exact ex_add (t := 1) (s := 74) hx hy (by omega) (by decide) (by decide)
    exact dy_sqrt ha (by omega) (by omega) (by decide) (by decide)
  · by_cases hm : c < 2 ^ 37
    · by_cases hb : c * c ≤ 2 ^ 73
      · obtain ⟨n, hn, en, en'⟩ := rd_add (r := 20) hx hy (by rw [e, Int.natAbs_natCast]; omega) (by decide) (by decide)
        obtain ⟨S, rfl⟩ := Int.eq_ofNat_of_zero_le (show 0 ≤ n by omega)
        have hd : (c * 1 - 1) / 65536 ≥ 1048575 := by omega
        exact sqrt_gap (m := 36) (γ := 1) hn (by omega) (by omega) c3 (.inl ⟨rfl, rfl⟩) (by omega) (by omega)
      · obtain ⟨n, hn, en, en'⟩ := rd_add (r := 21) hx hy (by rw [e, Int.natAbs_natCast]; have := sq_mul_le (Nat.le_of_lt hm); omega) (by decide) (by decide)
        obtain ⟨S, rfl⟩ := Int.eq_ofNat_of_zero_le (show 0 ≤ n by omega)
        have hg : 2 ^ 36 + 2 ^ 18 ≤ c := by
          rcases Nat.lt_or_ge c (2 ^ 36 + 2 ^ 18) with h' | h'
          · have := sq_mul_le (Nat.le_of_lt h')
            omega
          · exact h'
        exact sqrt_gap (m := 36) (γ := 1) hn (by omega) (by omega) c3 (.inl ⟨rfl, rfl⟩) (by omega) (by omega)
    · obtain ⟨n, hn, en, en'⟩ := rd_add (r := 22) hx hy (by rw [e, Int.natAbs_natCast]; omega) (by decide) (by decide)
      obtain ⟨S, rfl⟩ := Int.eq_ofNat_of_zero_le (show 0 ≤ n by omega)
      exact sqrt_gap (m := 37) (γ := 2) hn (by omega) (by omega) c3 (.inr ⟨rfl, rfl⟩) (by omega) (by omega)
theorem dy_up {x : UInt64} {a k j l : Nat} (hx : Dy x (a : Int) k) (h : k = j + l) : Dy x ((a * 2 ^ j : Nat) : Int) l := by
  have := dy_scale hx h
  rw [Int.natCast_mul, Int.natCast_pow]
  exact this
theorem scaled_exact2 {x y big : UInt64} {n1 n2 c k L M : Nat} (hx : Dy x (n1 : Int) k) (hy : Dy y (n2 : Int) k) (hb : Dy big (M : Int) k) (hM1 : 2 ^ L ≤ M) (hM2 : M < 2 ^ (L + 1)) (h1 : n1 ≤ M) (h2 : n2 ≤ M) (hM : M = n1 ∨ M = n2)
    (hc : n1 * n1 + n2 * n2 = c * c) (hL : L ≤ 36) (hk1 : 102 ≤ k) (hk2 : k ≤ 1900) : Dy (scaledNorm [x, y] big) (c : Int) k := by
  rw [scaled2, frexp_exp hb hM1 hM2]
  dsimp only
  have hs := dy_ldexp_one (E := -((L + k : Int) - 1073)) (K := 2147 - L - k) (by omega) (by omega) (by omega)
  have hX := dy_up (j := 36 - L) (l := 1037) (scale_dy hx hs (by omega) (by omega) (by omega)) (by omega)
  have hY := dy_up (j := 36 - L) (l := 1037) (scale_dy hy hs (by omega) (by omega) (by omega)) (by omega)
  have e1 : (2 : Nat) ^ (L + 1) * 2 ^ (36 - L) = 2 ^ 37 := pow_cat (by omega)
  have e0 : (2 : Nat) ^ L * 2 ^ (36 - L) = 2 ^ 36 := pow_cat (by omega)
  have hz := Nat.two_pow_pos (36 - L)
  have w1 : n1 * 2 ^ (36 - L) < 2 ^ 37 := by rw [← e1]; exact Nat.mul_lt_mul_of_pos_right (by omega) hz
  have w2 : n2 * 2 ^ (36 - L) < 2 ^ 37 := by rw [← e1]; exact Nat.mul_lt_mul_of_pos_right (by omega) hz
  have wm : 2 ^ 36 ≤ n1 * 2 ^ (36 - L) ∨ 2 ^ 36 ≤ n2 * 2 ^ (36 - L) := by
    rcases hM with h | h
    · left; rw [← e0, ← h]; exact Nat.mul_le_mul_right _ hM1
    · right; rw [← e0, ← h]; exact Nat.mul_le_mul_right _ hM1
  have hcc : n1 * 2 ^ (36 - L) * (n1 * 2 ^ (36 - L)) + n2 * 2 ^ (36 - L) * (n2 * 2 ^ (36 - L)) = c * 2 ^ (36 - L) * (c * 2 ^ (36 - L)) := by
    have : n1 * 2 ^ (36 - L) * (n1 * 2 ^ (36 - L)) + n2 * 2 ^ (36 - L) * (n2 * 2 ^ (36 - L)) = (n1 * n1 + n2 * n2) * (2 ^ (36 - L) * 2 ^ (36 - L)) := by
      rw [Nat.add_mul]; congr 1 <;> ac_rfl
    rw [this, hc]
    ac_rfl
  obtain ⟨s, f1, f2, t, q1, q2, q3, q4, q5, q6, q7⟩ := head_ex hX hY w1 w2 wm
  have A := below w1
  have B := below w2
  have C0 : 2 ^ 36 ≤ c * 2 ^ (36 - L) := by
    rcases Nat.lt_or_ge (c * 2 ^ (36 - L)) (2 ^ 36) with h | h
    · have h3 := sq_mul_le (show c * 2 ^ (36 - L) ≤ 2 ^ 36 - 1 by omega)
      have : 2 ^ 72 ≤ c * 2 ^ (36 - L) * (c * 2 ^ (36 - L)) := by
        rcases wm with h' | h' <;> have := above h' <;> omega
      omega
    · exact h
  have C1 : c * 2 ^ (36 - L) * (c * 2 ^ (36 - L)) ≤ 2 * (2 ^ 74 - 2 ^ 38 + 1) := by omega
  rw [hcc] at q5
  obtain ⟨t1, t2, t3⟩ := tail_ex q1 q2 q3 q4 q5 q6 q7 (by omega) (by omega)
  have hr := sqrt_cc t1 t2 t3 C0 C1
  have he := end_ex (h := Float64.sqrt (tailN (headN (Float64.mul x (Float64.ldexp Float64.one (-((L + k : Int) - 1073)))) (Float64.mul y (Float64.ldexp Float64.one (-((L + k : Int) - 1073))))))) q1 q2 q3 q4 q5 q6 q7 hr C0 C1
  have he' : Dy (endN (headN (Float64.mul x (Float64.ldexp Float64.one (-((L + k : Int) - 1073)))) (Float64.mul y (Float64.ldexp Float64.one (-((L + k : Int) - 1073))))) (Float64.sqrt (tailN (headN (Float64.mul x (Float64.ldexp Float64.one (-((L + k : Int) - 1073)))) (Float64.mul y (Float64.ldexp Float64.one (-((L + k : Int) - 1073)))))))) ((c : Int) * 1) (1073 - L) := by
    have e3 : ((c * 2 ^ (36 - L) : Nat) : Int) = (c : Int) * 2 ^ (36 - L) := by rw [Int.natCast_mul, Int.natCast_pow]; rfl
    rw [e3] at he
    unfold Dy at he ⊢
    rw [Int.mul_one]
    rw [Int.mul_assoc, ← Int.pow_add, show 36 - L + 1037 = 1073 - L by omega] at he
    exact he
  refine dy_div (c := (c : Int)) (b := 1) he' hs (by decide) ?_ (by omega) (by omega)
  have := cc_bnd C1
  have h9 : c * 1 ≤ c * 2 ^ (36 - L) := Nat.mul_le_mul_left c hz
  omega
theorem norm_exact2 {A B : UInt64} {n1 n2 : Int} {c k : Nat} (hA : Dy A n1 k) (hB : Dy B n2 k) (h1 : n1.natAbs < 2 ^ 36) (h2 : n2.natAbs < 2 ^ 36) (hc : n1 * n1 + n2 * n2 = c * c) (hk1 : 102 ≤ k) (hk2 : k ≤ 1900) :
    Dy (vectorNorm [Float64.abs A, Float64.abs B]) (c : Int) k := by
  obtain ⟨big, M, hM, m1, m2, m3, hv⟩ := vec_two (dy_abs hA) (dy_abs hB) hk1
  rw [hv]
  have hcn : n1.natAbs * n1.natAbs + n2.natAbs * n2.natAbs = c * c := by
    have e1 := Int.natAbs_mul_self' n1
    have e2 := Int.natAbs_mul_self' n2
    omega
  by_cases h : M = 0
  · rw [if_pos h]
    have c0 : c = 0 := by
      have z1 : n1.natAbs = 0 := by omega
      have z2 : n2.natAbs = 0 := by omega
      rw [z1, z2] at hcn
      rcases Nat.eq_zero_or_pos c with h | h
      · exact h
      · have := Nat.mul_pos h h; omega
    rw [c0, ← h]
    exact hM
  · rw [if_neg h]
    obtain ⟨L, hL1, hL2⟩ := log_ex (show 0 < M by omega)
    have hL : L ≤ 35 := two_pow_between (b := 35) hL1 (by omega)
    exact scaled_exact2 (dy_abs hA) (dy_abs hB) hM hL1 hL2 m1 m2 m3 hcn (by omega) hk1 hk2
end Mine

end FL13
section DT
open PySem PySem.W PySem.Calls PyProof.Rows
open PySem.Builtin.Math
set_option linter.unusedVariables false
set_option exponentiation.threshold 3000
namespace Mine
def RX (fl : Bool) (a b X Y : Int) : Int := if fl then a * X + b * Y else a * X - b * Y
def RY (fl : Bool) (a b X Y : Int) : Int := if fl then b * X - a * Y else b * X + a * Y
abbrev mi (m : UInt64) (w : Int) : UInt64 := Float64.mul m (Float64.ofInt w)
abbrev si (m : UInt64) (w : Int) : UInt64 := Float64.mul m (Float64.abs (Float64.ofInt w))
section
variable {mu mu2 p0 p1 sg sg2 : UInt64} {X Y P0 P1 a b S S2 : Int}
end
end Mine

end DT
section TH
open PySem PySem.W PySem.Calls PyProof.Rows
open PySem.Builtin.Math
set_option linter.unusedVariables false
set_option exponentiation.threshold 3000
namespace Mine
def TG (s1 s3 : UInt64) (a b : Int) (u1 u2 : UInt64) : Prop := u1 = vectorNorm [Float64.abs (si s1 a), Float64.abs (si s3 b)] ∧ u2 = vectorNorm [Float64.abs (si s1 b), Float64.abs (si s3 a)]
end Mine

end TH
section L2a
set_option linter.unusedVariables false
namespace Mine
/-- the sum of the first n -/
def sumN (f : Nat → Int) : Nat → Int
  | 0 => 0
  | n + 1 => sumN f n + f n
/-- the line of law 2: legs l, times t, the weights of least squares b -/
structure Line (m : Nat) (far : Int) (l t b : Nat → Int) : Prop where
  hm : (m = 2 ∧ far = 5) ∨ (m = 3 ∧ far = 13) ∨ (m = 4 ∧ far = 85)
  ht : ∀ i, i < m → 1 ≤ t i ∧ t i ≤ 4
  l0 : l 0 = 3 ∨ l 0 = -3
  l1 : l 1 = 4 ∨ l 1 = -4
  l2 : 3 ≤ m → l 2 = 12 ∨ l 2 = -12
  l3 : 4 ≤ m → l 3 = 84 ∨ l 3 = -84
  hb : ∀ i, i < m → b i * t i = 12 * l i
variable {m : Nat} {far : Int} {l t b w : Nat → Int}
theorem sq0 (H : Line m far l t b) : l 0 * l 0 = 9 := by rcases H.l0 with h | h <;> rw [h] <;> decide
theorem sq1 (H : Line m far l t b) : l 1 * l 1 = 16 := by rcases H.l1 with h | h <;> rw [h] <;> decide
theorem sq2 (H : Line m far l t b) (hm : 3 ≤ m) : l 2 * l 2 = 144 := by rcases H.l2 hm with h | h <;> rw [h] <;> decide
theorem sq3 (H : Line m far l t b) (hm : 4 ≤ m) : l 3 * l 3 = 7056 := by rcases H.l3 hm with h | h <;> rw [h] <;> decide
def Alike (m : Nat) (b w : Nat → Int) : Prop := ∀ i, i < m → w i * b 0 = w 0 * b i
theorem cross (H : Line m far l t b) {i : Nat} (hi : i < m) : w i * b 0 = w 0 * b i ↔ t i * w i * l 0 = t 0 * w 0 * l i := by
  have h0 : 0 < m := by omega
  have e0 := H.hb 0 h0
  have ei := H.hb i hi
  have p0 := H.ht 0 h0
  have pi := H.ht i hi
  have hp : 0 < t i * t 0 := Int.mul_pos (by omega) (by omega)
  have k1 : 12 * (t i * w i * l 0) = w i * b 0 * (t i * t 0) := by grind
  have k2 : 12 * (t 0 * w 0 * l i) = w 0 * b i * (t i * t 0) := by grind
  constructor
  · intro h
    rw [h] at k1
    omega
  · intro h
    rw [h, k2] at k1
    exact (Int.eq_of_mul_eq_mul_right (Int.ne_of_gt hp) k1).symm
theorem lag2 (l x : Nat → Int) : sumN (fun i => l i * l i) 2 * sumN (fun i => x i * x i) 2 = sumN (fun i => l i * x i) 2 * sumN (fun i => l i * x i) 2 + (x 1 * l 0 - x 0 * l 1) * (x 1 * l 0 - x 0 * l 1) := by
  simp only [sumN]; grind
theorem lag3 (l x : Nat → Int) : sumN (fun i => l i * l i) 3 * sumN (fun i => x i * x i) 3 = sumN (fun i => l i * x i) 3 * sumN (fun i => l i * x i) 3 + ((x 1 * l 0 - x 0 * l 1) * (x 1 * l 0 - x 0 * l 1) + (x 2 * l 0 - x 0 * l 2) * (x 2 * l 0 - x 0 * l 2) + (x 2 * l 1 - x 1 * l 2) * (x 2 * l 1 - x 1 * l 2)) := by
  simp only [sumN]; grind
theorem lag4 (l x : Nat → Int) : sumN (fun i => l i * l i) 4 * sumN (fun i => x i * x i) 4 = sumN (fun i => l i * x i) 4 * sumN (fun i => l i * x i) 4 + ((x 1 * l 0 - x 0 * l 1) * (x 1 * l 0 - x 0 * l 1) + (x 2 * l 0 - x 0 * l 2) * (x 2 * l 0 - x 0 * l 2) + (x 2 * l 1 - x 1 * l 2) * (x 2 * l 1 - x 1 * l 2) +
    ((x 3 * l 0 - x 0 * l 3) * (x 3 * l 0 - x 0 * l 3) + (x 3 * l 1 - x 1 * l 3) * (x 3 * l 1 - x 1 * l 3) + (x 3 * l 2 - x 2 * l 3) * (x 3 * l 2 - x 2 * l 3))) := by
  simp only [sumN]; grind
theorem far_sq (H : Line m far l t b) : sumN (fun i => l i * l i) m = far * far := by
  have h0 := sq0 H
  have h1 := sq1 H
  rcases H.hm with ⟨rfl, rfl⟩ | ⟨rfl, rfl⟩ | ⟨rfl, rfl⟩
  · simp only [sumN]; omega
  · have h2 := sq2 H (by decide)
    simp only [sumN]; omega
  · have h2 := sq2 H (by decide)
    have h3 := sq3 H (by decide)
    simp only [sumN]; omega
theorem sq_nn (x : Int) : 0 ≤ x * x := by
  rcases Int.le_total 0 x with h | h
  · exact Int.mul_nonneg h h
  · exact Int.mul_nonneg_of_nonpos_of_nonpos h h
theorem sq_pos {x : Int} (h : x ≠ 0) : 1 ≤ x * x := by
  rcases Int.lt_or_gt_of_ne h with h | h
  · have := Int.mul_pos_of_neg_of_neg h h; omega
  · have := Int.mul_pos h h; omega
/-- not alike: the squares part -/
theorem part (H : Line m far l t b) (h : ¬ Alike m b w) : sumN (fun i => l i * (t i * w i)) m * sumN (fun i => l i * (t i * w i)) m + 1 ≤ far * far * sumN (fun i => t i * w i * (t i * w i)) m := by
  rw [← far_sq H]
  have h' : ∃ i, i < m ∧ t i * w i * l 0 - t 0 * w 0 * l i ≠ 0 := by
    apply Classical.byContradiction
    intro hc
    apply h
    intro i hi
    rw [cross H hi]
    apply Classical.byContradiction
    intro hne
    exact hc ⟨i, hi, by omega⟩
  obtain ⟨i, hi, hne⟩ := h'
  rcases H.hm with ⟨rfl, rfl⟩ | ⟨rfl, rfl⟩ | ⟨rfl, rfl⟩
  · rw [lag2 l (fun i => t i * w i)]
    have hi' : i = 0 ∨ i = 1 := by omega
    rcases hi' with rfl | rfl
    · exact absurd (Int.sub_self _) hne
    · have := sq_pos hne
      omega
  · rw [lag3 l (fun i => t i * w i)]
    have n1 := sq_nn (t 1 * w 1 * l 0 - t 0 * w 0 * l 1)
    have n2 := sq_nn (t 2 * w 2 * l 0 - t 0 * w 0 * l 2)
    have n3 := sq_nn (t 2 * w 2 * l 1 - t 1 * w 1 * l 2)
    have hi' : i = 0 ∨ i = 1 ∨ i = 2 := by omega
    rcases hi' with rfl | rfl | rfl
    · exact absurd (Int.sub_self _) hne
    · have := sq_pos hne
      omega
    · have := sq_pos hne
      omega
  · rw [lag4 l (fun i => t i * w i)]
    have n1 := sq_nn (t 1 * w 1 * l 0 - t 0 * w 0 * l 1)
    have n2 := sq_nn (t 2 * w 2 * l 0 - t 0 * w 0 * l 2)
    have n3 := sq_nn (t 2 * w 2 * l 1 - t 1 * w 1 * l 2)
    have n4 := sq_nn (t 3 * w 3 * l 0 - t 0 * w 0 * l 3)
    have n5 := sq_nn (t 3 * w 3 * l 1 - t 1 * w 1 * l 3)
    have n6 := sq_nn (t 3 * w 3 * l 2 - t 2 * w 2 * l 3)
    have hi' : i = 0 ∨ i = 1 ∨ i = 2 ∨ i = 3 := by omega
    rcases hi' with rfl | rfl | rfl | rfl
    · exact absurd (Int.sub_self _) hne
    · have := sq_pos hne
      omega
    · have := sq_pos hne
      omega
    · have := sq_pos hne
      omega
end Mine

end L2a
section L2b
set_option linter.unusedVariables false
namespace Mine
variable {m : Nat} {far : Int} {l t b w : Nat → Int}
theorem alike_y (H : Line m far l t b) (hA : Alike m b w) : ∃ y, ∀ i, i < m → t i * w i = y * l i := by
  have hm : 2 ≤ m := by rcases H.hm with ⟨rfl, _⟩ | ⟨rfl, _⟩ | ⟨rfl, _⟩ <;> decide
  have h1 := (cross H (show 1 < m by omega)).mp (hA 1 (by omega))
  have key : ∃ y, t 0 * w 0 = y * l 0 := by
    generalize t 0 * w 0 = x0 at *
    generalize t 1 * w 1 = x1 at *
    rcases H.l0 with h | h <;> rcases H.l1 with h' | h' <;> rw [h, h'] at h1 <;> rw [h]
    · exact ⟨x1 - x0, by omega⟩
    · exact ⟨-x1 - x0, by omega⟩
    · exact ⟨x0 + x1, by omega⟩
    · exact ⟨x0 - x1, by omega⟩
  obtain ⟨y, hy⟩ := key
  refine ⟨y, fun i hi => ?_⟩
  have hc := (cross H hi).mp (hA i hi)
  have hl : l 0 ≠ 0 := by rcases H.l0 with h | h <;> rw [h] <;> decide
  rw [hy] at hc
  refine Int.eq_of_mul_eq_mul_right hl ?_
  rw [hc]; ac_rfl
def cN : Nat → Nat
  | 0 => 0
  | 1 => 3
  | 2 => 5
  | 3 => 13
  | _ => 85
theorem cN_m (H : Line m far l t b) : ((cN m : Nat) : Int) = far := by
  rcases H.hm with ⟨rfl, rfl⟩ | ⟨rfl, rfl⟩ | ⟨rfl, rfl⟩ <;> rfl
theorem leg_sq (H : Line m far l t b) {j : Nat} (hj : j ≤ m) : sumN (fun i => l i * l i) j = (cN j : Int) * (cN j : Int) := by
  have h0 := sq0 H
  have h1 := sq1 H
  have hjj : j = 0 ∨ j = 1 ∨ j = 2 ∨ j = 3 ∨ j = 4 := by rcases H.hm with ⟨rfl, _⟩ | ⟨rfl, _⟩ | ⟨rfl, _⟩ <;> omega
  rcases hjj with rfl | rfl | rfl | rfl | rfl
  · rfl
  · simp only [sumN, cN]; omega
  · simp only [sumN, cN]; omega
  · have h2 := sq2 H hj
    simp only [sumN, cN]; omega
  · have h2 := sq2 H (by omega)
    have h3 := sq3 H hj
    simp only [sumN, cN]; omega
theorem sumN_congr {f g : Nat → Int} : ∀ {n : Nat}, (∀ i, i < n → f i = g i) → sumN f n = sumN g n
  | 0, _ => rfl
  | n + 1, h => by
    show sumN f n + f n = sumN g n + g n
    rw [h n (by omega), sumN_congr fun i hi => h i (by omega)]
theorem sumN_mul (k : Int) (f : Nat → Int) : ∀ n, sumN (fun i => k * f i) n = k * sumN f n
  | 0 => by simp [sumN]
  | n + 1 => by
    show sumN (fun i => k * f i) n + k * f n = k * (sumN f n + f n)
    rw [sumN_mul k f n, Int.mul_add]
/-- alike: the sums of squares are squares -/
theorem alike_sq (H : Line m far l t b) {y : Int} (hy : ∀ i, i < m → t i * w i = y * l i) {j : Nat} (hj : j ≤ m) : sumN (fun i => t i * w i * (t i * w i)) j = y * (cN j : Int) * (y * (cN j : Int)) := by
  have : sumN (fun i => t i * w i * (t i * w i)) j = sumN (fun i => y * y * (l i * l i)) j := sumN_congr fun i hi => by
    show t i * w i * (t i * w i) = y * y * (l i * l i)
    rw [hy i (by omega)]; ac_rfl
  rw [this, sumN_mul, leg_sq H hj]
  ac_rfl
theorem alike_sight (H : Line m far l t b) {y : Int} (hy : ∀ i, i < m → t i * w i = y * l i) : sumN (fun i => l i * (t i * w i)) m = y * (far * far) := by
  rw [← far_sq H, ← sumN_mul]
  refine sumN_congr fun i hi => ?_
  show l i * (t i * w i) = y * (l i * l i)
  rw [hy i hi]; ac_rfl
/-- the three kinds of weights -/
def Kind (m : Nat) (b w : Nat → Int) : Prop :=
  (∃ a : Int, (-3 ≤ a ∧ a ≤ 3) ∧ ∀ i, i < m → w i = a * b i) ∨ (∃ (a : Int) (k : Nat), (-3 ≤ a ∧ a ≤ 3) ∧ k < m ∧ ∀ i, i < m → w i = a * b i + if i = k then 1 else 0) ∨ ∀ i, i < m → -8 ≤ w i ∧ w i ≤ 8
theorem along_alike {a : Int} (h : ∀ i, i < m → w i = a * b i) (hm : 0 < m) : Alike m b w := fun i hi => by
  rw [h i hi, h 0 hm]; ac_rfl
theorem xt (H : Line m far l t b) {a d : Int} {i : Nat} (hi : i < m) (h : w i = a * b i + d) : t i * w i = 12 * (a * l i) + t i * d := by
  rw [h, Int.mul_add]
  have := H.hb i hi
  have e : t i * (a * b i) = a * (b i * t i) := by ac_rfl
  rw [e, this]
  congr 1
  ac_rfl
theorem lxt (H : Line m far l t b) {a d c : Int} {i : Nat} (hi : i < m) (h : w i = a * b i + d) (hc : l i * l i = c) : l i * (t i * w i) = 12 * (a * c) + l i * t i * d := by
  rw [xt H hi h, Int.mul_add, ← hc]
  congr 1
  · have : l i * (12 * (a * l i)) = 12 * (a * (l i * l i)) := by ac_rfl
    exact this
  · ac_rfl
theorem sq_up {x : Int} {B : Nat} (h : -(B : Int) ≤ x ∧ x ≤ B) : x * x ≤ (B : Int) * B := by
  have h1 : x.natAbs ≤ B := by omega
  have h2 := Nat.mul_le_mul h1 h1
  have h3 := Int.natAbs_mul_self' x
  rw [← h3]
  exact_mod_cast h2
theorem small_x (ht : 1 ≤ t 0 ∧ t 0 ≤ 4) {x : Int} (h : -8 ≤ x ∧ x ≤ 8) : -32 ≤ t 0 * x ∧ t 0 * x ≤ 32 := by
  have h1 := ht.1
  have h2 := ht.2
  have : t 0 = 1 ∨ t 0 = 2 ∨ t 0 = 3 ∨ t 0 = 4 := by omega
  rcases this with e | e | e | e <;> rw [e] <;> omega
theorem drawn_S (H : Line m far l t b) (h : ∀ i, i < m → -8 ≤ w i ∧ w i ≤ 8) : -3296 ≤ sumN (fun i => l i * (t i * w i)) m ∧ sumN (fun i => l i * (t i * w i)) m ≤ 3296 := by
  have bx : ∀ i, i < m → -32 ≤ t i * w i ∧ t i * w i ≤ 32 := fun i hi => small_x (t := fun _ => t i) (H.ht i hi) (h i hi)
  have lx : ∀ {L x : Int} {c : Int}, (L = c ∨ L = -c) → (-32 ≤ x ∧ x ≤ 32) → 0 ≤ c → -(32 * c) ≤ L * x ∧ L * x ≤ 32 * c := by
    intro L x c hL hx hc
    have p1 := Int.mul_le_mul_of_nonneg_left hx.1 hc
    have p2 := Int.mul_le_mul_of_nonneg_left hx.2 hc
    rcases hL with rfl | rfl
    · omega
    · rw [Int.neg_mul]; omega
  rcases H.hm with ⟨rfl, rfl⟩ | ⟨rfl, rfl⟩ | ⟨rfl, rfl⟩
  · have a0 := lx H.l0 (bx 0 (by decide)) (by decide)
    have a1 := lx H.l1 (bx 1 (by decide)) (by decide)
    simp only [sumN]; omega
  · have a0 := lx H.l0 (bx 0 (by decide)) (by decide)
    have a1 := lx H.l1 (bx 1 (by decide)) (by decide)
    have a2 := lx (H.l2 (by decide)) (bx 2 (by decide)) (by decide)
    simp only [sumN]; omega
  · have a0 := lx H.l0 (bx 0 (by decide)) (by decide)
    have a1 := lx H.l1 (bx 1 (by decide)) (by decide)
    have a2 := lx (H.l2 (by decide)) (bx 2 (by decide)) (by decide)
    have a3 := lx (H.l3 (by decide)) (bx 3 (by decide)) (by decide)
    simp only [sumN]; omega
end Mine

end L2b
section L2c
set_option linter.unusedVariables false
namespace Mine
variable {m : Nat} {far : Int} {l t b w : Nat → Int}
theorem lt_bnd {L T c : Int} (hL : L = c ∨ L = -c) (hT : 1 ≤ T ∧ T ≤ 4) (hc : 0 ≤ c) : -(4 * c) ≤ L * T ∧ L * T ≤ 4 * c := by
  have : T = 1 ∨ T = 2 ∨ T = 3 ∨ T = 4 := by omega
  rcases hL with rfl | rfl <;> rcases this with rfl | rfl | rfl | rfl <;> omega
theorem dl {x : Int} {k i : Nat} {c : Int} (h : -c ≤ x ∧ x ≤ c) (hc : 0 ≤ c) : -c ≤ x * (if i = k then 1 else 0) ∧ x * (if i = k then 1 else 0) ≤ c := by
  split <;> simp only [Int.mul_one, Int.mul_zero] <;> omega
theorem moved_S (H : Line m far l t b) {a : Int} {k : Nat} (ha : -3 ≤ a ∧ a ≤ 3) (hk : k < m) (h : ∀ i, i < m → w i = a * b i + if i = k then 1 else 0) :
    (m = 4 → -262144 ≤ sumN (fun i => l i * (t i * w i)) m ∧ sumN (fun i => l i * (t i * w i)) m ≤ 262144) ∧ (m ≠ 4 → -8192 ≤ sumN (fun i => l i * (t i * w i)) m ∧ sumN (fun i => l i * (t i * w i)) m ≤ 8192) := by
  have b0 := fun hi => dl (i := 0) (k := k) (lt_bnd H.l0 (H.ht 0 hi) (by decide)) (by decide)
  have b1 := fun hi => dl (i := 1) (k := k) (lt_bnd H.l1 (H.ht 1 hi) (by decide)) (by decide)
  have b2 := fun hi => dl (i := 2) (k := k) (lt_bnd (H.l2 (by omega)) (H.ht 2 hi) (by decide)) (by decide)
  have b3 := fun hi => dl (i := 3) (k := k) (lt_bnd (H.l3 (by omega)) (H.ht 3 hi) (by decide)) (by decide)
  rcases H.hm with ⟨rfl, rfl⟩ | ⟨rfl, rfl⟩ | ⟨rfl, rfl⟩
  · have e0 := lxt H (by decide) (h 0 (by decide)) (sq0 H)
    have e1 := lxt H (by decide) (h 1 (by decide)) (sq1 H)
    have b0 := b0 (by decide)
    have b1 := b1 (by decide)
    refine ⟨fun h => absurd h (by decide), fun _ => ?_⟩
    simp only [sumN]
    omega
  · have e0 := lxt H (by decide) (h 0 (by decide)) (sq0 H)
    have e1 := lxt H (by decide) (h 1 (by decide)) (sq1 H)
    have e2 := lxt H (by decide) (h 2 (by decide)) (sq2 H (by decide))
    have b0 := b0 (by decide)
    have b1 := b1 (by decide)
    have b2 := b2 (by decide)
    refine ⟨fun h => absurd h (by decide), fun _ => ?_⟩
    simp only [sumN]
    omega
  · have e0 := lxt H (by decide) (h 0 (by decide)) (sq0 H)
    have e1 := lxt H (by decide) (h 1 (by decide)) (sq1 H)
    have e2 := lxt H (by decide) (h 2 (by decide)) (sq2 H (by decide))
    have e3 := lxt H (by decide) (h 3 (by decide)) (sq3 H (by decide))
    have b0 := b0 (by decide)
    have b1 := b1 (by decide)
    have b2 := b2 (by decide)
    have b3 := b3 (by decide)
    refine ⟨fun _ => ?_, fun h => absurd rfl h⟩
    simp only [sumN]
    omega
theorem moved_term (H : Line m far l t b) {a : Int} {i j : Nat} (hi : i < m) (hj : j < m) (h1 : w i = a * b i + 1) (h0 : w j = a * b j + 0) {c : Int} (hc : l j * l j = c) (hc0 : 0 ≤ c) :
    c ≤ (t i * w i * l j - t j * w j * l i) * (t i * w i * l j - t j * w j * l i) := by
  have e1 := xt H hi h1
  have e2 := xt H hj h0
  have e : t i * w i * l j - t j * w j * l i = t i * l j := by rw [e1, e2]; grind
  rw [e]
  have p := H.ht i hi
  have s := sq_pos (x := t i) (by omega)
  have : t i * l j * (t i * l j) = t i * t i * (l j * l j) := by ac_rfl
  rw [this, hc]
  have := Int.mul_le_mul_of_nonneg_right s hc0
  omega
theorem moved_part (H : Line 4 far l t b) {a : Int} {k : Nat} (hk : k < 4) (h : ∀ i, i < 4 → w i = a * b i + if i = k then 1 else 0) : sumN (fun i => l i * (t i * w i)) 4 * sumN (fun i => l i * (t i * w i)) 4 + 144 ≤ far * far * sumN (fun i => t i * w i * (t i * w i)) 4 := by
  rw [← far_sq H, lag4 l (fun i => t i * w i)]
  have n1 := sq_nn (t 1 * w 1 * l 0 - t 0 * w 0 * l 1)
  have n2 := sq_nn (t 2 * w 2 * l 0 - t 0 * w 0 * l 2)
  have n3 := sq_nn (t 2 * w 2 * l 1 - t 1 * w 1 * l 2)
  have n4 := sq_nn (t 3 * w 3 * l 0 - t 0 * w 0 * l 3)
  have n5 := sq_nn (t 3 * w 3 * l 1 - t 1 * w 1 * l 3)
  have n6 := sq_nn (t 3 * w 3 * l 2 - t 2 * w 2 * l 3)
  have s3 := sq3 H (by decide)
  have s2 := sq2 H (by decide)
  have flip : ∀ x y : Int, (x - y) * (x - y) = (y - x) * (y - x) := fun x y => by grind
  have hk' : k = 0 ∨ k = 1 ∨ k = 2 ∨ k = 3 := by omega
  rcases hk' with rfl | rfl | rfl | rfl
  · have := moved_term H (i := 0) (j := 3) (by decide) (by decide) (h 0 (by decide)) (h 3 (by decide)) s3 (by decide)
    rw [flip] at this
    omega
  · have := moved_term H (i := 1) (j := 3) (by decide) (by decide) (h 1 (by decide)) (h 3 (by decide)) s3 (by decide)
    rw [flip] at this
    omega
  · have := moved_term H (i := 2) (j := 3) (by decide) (by decide) (h 2 (by decide)) (h 3 (by decide)) s3 (by decide)
    rw [flip] at this
    omega
  · have := moved_term H (i := 3) (j := 2) (by decide) (by decide) (h 3 (by decide)) (h 2 (by decide)) s2 (by decide)
    omega
/-- not alike: the spread is larger, by one part in 2^30 of its square -/
theorem gap (H : Line m far l t b) (hk : Kind m b w) (h : ¬ Alike m b w) : sumN (fun i => l i * (t i * w i)) m * sumN (fun i => l i * (t i * w i)) m * 1073741825 ≤ far * far * sumN (fun i => t i * w i * (t i * w i)) m * 1073741824 := by
  have hm : 2 ≤ m ∧ m ≤ 4 := by rcases H.hm with ⟨rfl, _⟩ | ⟨rfl, _⟩ | ⟨rfl, _⟩ <;> decide
  have hp := part H h
  rcases hk with ⟨a, ha, hw⟩ | ⟨a, k, ha, hkm, hw⟩ | hw
  · exact absurd (along_alike hw (by omega)) h
  · obtain ⟨s4, s3⟩ := moved_S H ha hkm hw
    by_cases h4 : m = 4
    · subst h4
      have hs := sq_up (B := 262144) (s4 rfl)
      have := moved_part H hkm hw
      generalize sumN (fun i => l i * (t i * w i)) 4 * sumN (fun i => l i * (t i * w i)) 4 = SS at *
      generalize far * far * sumN (fun i => t i * w i * (t i * w i)) 4 = FX at *
      omega
    · have hs := sq_up (B := 8192) (s3 h4)
      generalize sumN (fun i => l i * (t i * w i)) m * sumN (fun i => l i * (t i * w i)) m = SS at *
      generalize far * far * sumN (fun i => t i * w i * (t i * w i)) m = FX at *
      omega
  · have hs := sq_up (B := 3296) (drawn_S H hw)
    generalize sumN (fun i => l i * (t i * w i)) m * sumN (fun i => l i * (t i * w i)) m = SS at *
    generalize far * far * sumN (fun i => t i * w i * (t i * w i)) m = FX at *
    omega
end Mine

end L2c
section L2d
open PySem PySem.W PySem.Calls PyProof.Rows
open PySem.Builtin.Math
set_option linter.unusedVariables false
set_option exponentiation.threshold 3000
namespace Mine
set_option maxRecDepth 20000
theorem half_c {c T z : Nat} (hc : 24 ≤ c) (h : z * 2 ≤ 24 * T) : z * 2 ≤ T * c := Nat.le_trans h (by rw [Nat.mul_comm T]; exact Nat.mul_le_mul_right _ hc)
theorem y2 {T TE y c : Nat} (hc : 24 ≤ c) (h2 : y * c ≤ T * c + TE) (h3 : TE ≤ 12 * T) : y ≤ 2 * T := by
  refine Nat.le_of_mul_le_mul_right (c := c) ?_ (by omega)
  rw [Nat.mul_assoc]
  have := half_c hc (z := TE) (T := T) (by omega)
  generalize y * c = yc at *
  generalize T * c = tc at *
  omega
theorem t2r {T TE y c : Nat} (hc : 24 ≤ c) (h2 : T * c ≤ y * c + TE) (h3 : TE ≤ 12 * T) : T ≤ 2 * y := by
  refine Nat.le_of_mul_le_mul_right (c := c) ?_ (by omega)
  rw [Nat.mul_assoc]
  have := half_c hc (z := TE) (T := T) (by omega)
  generalize y * c = yc at *
  generalize T * c = tc at *
  omega
theorem num_up {T TE N NE x y c : Nat} (hc : 24 ≤ c) (h1 : x * c ≤ (y + N) * (c + 1)) (h2 : y * c ≤ T * c + TE) (h3 : TE ≤ 12 * T) : x * c ≤ (T * c + TE + 4 * T) + (N * c + NE + 4 * N) := by
  have hy := y2 hc h2 h3
  rw [Nat.mul_add, Nat.mul_one, Nat.add_mul] at h1
  generalize x * c = xc at *
  generalize y * c = yc at *
  generalize T * c = tc at *
  generalize N * c = nc at *
  omega
theorem num_dn {T TE N NE x y d : Nat} (hc : 24 ≤ d + 1) (h1 : (y + N) * d ≤ x * (d + 1)) (h0 : y * (d + 1) ≤ T * (d + 1) + TE) (h2 : T * (d + 1) ≤ y * (d + 1) + TE) (h3 : TE ≤ 12 * T) : T * (d + 1) + N * (d + 1) ≤ x * (d + 1) + (TE + 4 * T + (NE + 4 * N)) := by
  have hy := y2 hc h0 h3
  rw [Nat.add_mul] at h1
  have e1 : y * (d + 1) = y * d + y := Nat.mul_succ y d
  have e2 : N * (d + 1) = N * d + N := Nat.mul_succ N d
  rw [e1] at h2
  rw [e2]
  clear h0 hc
  generalize x * (d + 1) = xc at *
  generalize y * d = yc at *
  generalize T * (d + 1) = tc at *
  generalize N * d = nc at *
  omega
theorem zero_of {R : Nat} (h : R * R * 2 ^ 37 ≤ 0) : R = 0 := by
  rcases Nat.eq_zero_or_pos R with h' | h'
  · exact h'
  · have := Nat.mul_pos h' h'
    omega
theorem hN_low {rr T TE : Nat} (h : 2 ^ 142 ≤ T) (p2 : T * 2 ^ 37 ≤ rr * 2 ^ 37 + TE) (hTE : TE ≤ 12 * T) : 2 ^ 106 ≤ rr := by
  have := t2r (by decide) p2 hTE
  clear p2 hTE
  omega
theorem hN_aux {r n A e : Nat} (p1 : r * r * 2 ^ 37 ≤ A * 2 ^ 142 * 2 ^ 37 + A * 2 ^ 142 * e) (p2 : A * 2 ^ 142 * 2 ^ 37 ≤ r * r * 2 ^ 37 + A * 2 ^ 142 * e) (hTE : A * 2 ^ 142 * e ≤ 12 * (A * 2 ^ 142)) (hz : ¬ r * r + n * n * 2 ^ 142 = 0) : 2 ^ 106 ≤ r * r + n * n * 2 ^ 142 := by
  by_cases hn0 : n = 0
  · by_cases hA0 : A = 0
    · subst hn0 hA0
      exfalso
      apply hz
      have : r = 0 := zero_of (by simpa using p1)
      rw [this]
    · have : 2 ^ 142 ≤ A * 2 ^ 142 := Nat.le_mul_of_pos_left _ (by omega)
      exact Nat.le_trans (hN_low this p2 hTE) (Nat.le_add_right _ _)
  · have : 1 ≤ n * n := Nat.mul_pos (by omega) (by omega)
    generalize r * r = rr at *
    generalize n * n = nn at *
    omega
theorem r102 {r A e : Nat} (p1 : r * r * 2 ^ 37 ≤ A * 2 ^ 142 * 2 ^ 37 + A * 2 ^ 142 * e) (hTE : A * 2 ^ 142 * e ≤ 12 * (A * 2 ^ 142)) (hA : A ≤ 2 ^ 60) : r ≤ 2 ^ 102 := by
  rcases Nat.lt_or_ge r (2 ^ 102) with h1 | h1
  · exact Nat.le_of_lt h1
  · exfalso
    have := sq_mul_le h1
    generalize r * r = rr at *
    generalize A * 2 ^ 142 * e = TE at *
    omega
theorem root_int {x : UInt64} {R N : Nat} (hR : Fv x (R : Int)) (q1 : R * R * 2 ^ 37 ≤ N * (2 ^ 1000 * 2 ^ 1000) * (2 ^ 37 + 1)) (q2 : N * (2 ^ 1000 * 2 ^ 1000) * 137438953471 ≤ R * R * 2 ^ 37) (hge : 2 ^ 52 * 2 ^ 1000 ≤ R) (hc : ∀ {r Y : Nat}, 0 < Y → r * Y * (r * Y) * 2 ^ 37 ≤ N * (Y * Y) * (2 ^ 37 + 1) → N * (Y * Y) * 137438953471 ≤ r * Y * (r * Y) * 2 ^ 37 → r * r * 2 ^ 37 ≤ N * (2 ^ 37 + 1) ∧ N * 137438953471 ≤ r * r * 2 ^ 37) :
    ∃ r : Nat, Dy x (r : Int) 1000 ∧ r * r * 2 ^ 37 ≤ N * (2 ^ 37 + 1) ∧ N * 137438953471 ≤ r * r * 2 ^ 37 := by
  obtain ⟨t, ht⟩ := fv_lat (J := 1000) hR (by rw [Int.natAbs_natCast, Nat.pow_add]; exact hge)
  have ht0 : 0 ≤ t := by
    rcases Int.lt_or_le t 0 with h | h
    · have := Int.mul_neg_of_neg_of_pos h (pow_pos_int 1000)
      omega
    · exact h
  obtain ⟨r', rfl⟩ := Int.eq_ofNat_of_zero_le ht0
  have hr2 : R = r' * 2 ^ 1000 := by
    have e3 : ((2 : Int) ^ 1000) = ((2 ^ 1000 : Nat) : Int) := by simp
    rw [e3, ← Int.natCast_mul] at ht
    exact Int.ofNat_inj.mp ht
  rw [hr2] at q1 q2
  obtain ⟨c1, c2⟩ := hc (Nat.two_pow_pos 1000) q1 q2
  exact ⟨r', by rw [ht] at hR; exact hR, c1, c2⟩
/-- how near the float S is to the root of A (in units of an eighth): its square within e parts of 2^37 -/
def Near (S : UInt64) (A e : Nat) : Prop := ∃ r : Nat, Dy S (r : Int) 1000 ∧ r * r * 2 ^ 37 ≤ A * 2 ^ 142 * 2 ^ 37 + A * 2 ^ 142 * e ∧ A * 2 ^ 142 * 2 ^ 37 ≤ r * r * 2 ^ 37 + A * 2 ^ 142 * e
theorem root_ge {R N Y : Nat} (h : N * (Y * Y) * 137438953471 ≤ R * R * 2 ^ 37) (hN : 2 ^ 106 ≤ N) (hY : 0 < Y) : 2 ^ 52 * Y ≤ R := by
  rcases Nat.lt_or_ge R (2 ^ 52 * Y) with h1 | h1
  · exfalso
    have h3 := sq_mul_le (Nat.le_of_lt h1)
    have e3 : 2 ^ 52 * Y * (2 ^ 52 * Y) = 2 ^ 104 * (Y * Y) := by
      have : (2 : Nat) ^ 104 = 2 ^ 52 * 2 ^ 52 := by decide
      rw [this]; ac_rfl
    rw [e3] at h3
    have hz := Nat.mul_pos hY hY
    generalize Y * Y = Z at *
    have h4 := Nat.mul_le_mul_right Z hN
    generalize N * Z = NZ at *
    omega
  · exact h1
theorem root_cut {r N Y : Nat} (hY : 0 < Y) (q1 : r * Y * (r * Y) * 2 ^ 37 ≤ N * (Y * Y) * (2 ^ 37 + 1)) (q2 : N * (Y * Y) * 137438953471 ≤ r * Y * (r * Y) * 2 ^ 37) : r * r * 2 ^ 37 ≤ N * (2 ^ 37 + 1) ∧ N * 137438953471 ≤ r * r * 2 ^ 37 := by
  have hz := Nat.mul_pos hY hY
  have e4 : r * Y * (r * Y) = r * r * (Y * Y) := by ac_rfl
  rw [e4] at q1 q2
  generalize Y * Y = Z at *
  constructor
  · refine Nat.le_of_mul_le_mul_right (c := Z) ?_ hz
    calc r * r * 2 ^ 37 * Z = r * r * Z * 2 ^ 37 := by ac_rfl
      _ ≤ _ := q1
      _ = _ := by ac_rfl
  · refine Nat.le_of_mul_le_mul_right (c := Z) ?_ hz
    calc N * 137438953471 * Z = N * Z * 137438953471 := by ac_rfl
      _ ≤ _ := q2
      _ = _ := by ac_rfl
theorem near_alg2 (A N e c : Nat) : (A + N) * c * (e + 4) = A * c * e + 4 * (A * c) + (N * c * e + 4 * (N * c)) := by
  rw [Nat.add_mul, Nat.add_mul, Nat.mul_add, Nat.mul_add, Nat.mul_comm 4 (A * c), Nat.mul_comm 4 (N * c)]
theorem near_alg (A N e c k : Nat) : A * c * k + A * c * e + 4 * (A * c) + (N * c * k + N * c * e + 4 * (N * c)) = (A + N) * c * k + (A + N) * c * (e + 4) := by
  rw [near_alg2, Nat.add_mul A N c, Nat.add_mul (A * c)]
  ac_rfl
theorem near_zero {S : UInt64} (h : Fv S 0) : Near S 0 0 := ⟨0, dy_zero h _, by simp, by simp⟩
theorem near_step {S B : UInt64} {A n e : Nat} (hS : Near S A e) (hB : Dy B (n : Int) 1071) (hA : A ≤ 2 ^ 60) (hn : n ≤ 2 ^ 24) (he : e ≤ 12) : Near (vectorNorm [Float64.abs S, Float64.abs B]) (A + n * n) (e + 4) ∧ NN (vectorNorm [Float64.abs S, Float64.abs B]) := by
  obtain ⟨r, hr, p1, p2⟩ := hS
  have hB' : Dy B ((n * 2 ^ 71 : Nat) : Int) 1000 := dy_up hB rfl
  have hTE : A * 2 ^ 142 * e ≤ 12 * (A * 2 ^ 142) := by rw [Nat.mul_comm 12]; exact Nat.mul_le_mul_left _ he
  have hr2 := r102 p1 hTE hA
  obtain ⟨R, hR, q1, q2⟩ := norm_gen hr hB' (by rw [Int.natAbs_natCast]; omega) (by rw [Int.natAbs_natCast]; omega) (by decide) (by decide)
  rw [Int.natAbs_natCast, Int.natAbs_natCast] at q1 q2
  have en : n * 2 ^ 71 * (n * 2 ^ 71) = n * n * 2 ^ 142 := by
    have : (2 : Nat) ^ 142 = 2 ^ 71 * 2 ^ 71 := by decide
    rw [this]; ac_rfl
  rw [en] at q1 q2
  refine ⟨?_, nn_fv hR (by omega)⟩
  have key : ∃ r' : Nat, Dy (vectorNorm [Float64.abs S, Float64.abs B]) (r' : Int) 1000 ∧ r' * r' * 2 ^ 37 ≤ (r * r + n * n * 2 ^ 142) * (2 ^ 37 + 1) ∧ (r * r + n * n * 2 ^ 142) * 137438953471 ≤ r' * r' * 2 ^ 37 := by
    by_cases hz : r * r + n * n * 2 ^ 142 = 0
    · rw [hz] at q1
      have q1 : R * R * 2 ^ 37 ≤ 0 := Nat.le_trans q1 (Nat.le_of_eq (by rw [Nat.zero_mul]))
      obtain rfl := zero_of q1
      exact ⟨0, dy_zero hR _, by simp, by rw [hz]; simp⟩
    · exact root_int hR q1 q2 (root_ge q2 (hN_aux p1 p2 hTE hz) (Nat.two_pow_pos 1000)) fun hY a b => root_cut hY a b
  obtain ⟨r', d', k1, k2⟩ := key
  refine ⟨r', d', ?_, ?_⟩
  · have := num_up (T := A * 2 ^ 142) (TE := A * 2 ^ 142 * e) (N := n * n * 2 ^ 142) (NE := n * n * 2 ^ 142 * e) (c := 2 ^ 37) (by decide) k1 p1 hTE
    refine Nat.le_trans this (Nat.le_of_eq ?_)
    exact near_alg _ _ _ _ _
  · have := num_dn (T := A * 2 ^ 142) (TE := A * 2 ^ 142 * e) (N := n * n * 2 ^ 142) (NE := n * n * 2 ^ 142 * e) (d := 137438953471) (by decide) k2 p1 p2 hTE
    have e1 : (A + n * n) * 2 ^ 142 * 2 ^ 37 = A * 2 ^ 142 * 137438953472 + n * n * 2 ^ 142 * 137438953472 := by
      rw [Nat.add_mul A, Nat.add_mul (A * 2 ^ 142)]
    rw [e1, near_alg2]
    exact this
end Mine

end L2d
section L2e
open PySem PySem.W PySem.Calls PyProof.Rows
open PySem.Builtin.Math
set_option linter.unusedVariables false
set_option exponentiation.threshold 3000
namespace Mine
def AN (nn : Nat → Nat) : Nat → Nat
  | 0 => 0
  | i + 1 => AN nn i + nn i * nn i
/-- the spread of the weighed sum behind i readings -/
def SQ (nn : Nat → Nat) (i : Nat) (S : UInt64) : Prop := Near S (AN nn i) (4 * i) ∧ ∀ cs : Nat → Nat, (∀ j, j ≤ i → AN nn j = cs j * cs j) → Dy S (cs i : Int) 1071
theorem an_bnd {nn : Nat → Nat} (h : ∀ i, nn i ≤ 2 ^ 23) : ∀ i, AN nn i ≤ i * 2 ^ 46
  | 0 => by simp [AN]
  | i + 1 => by
    have h1 := an_bnd h i
    have h2 := sq_mul_le (h i)
    show AN nn i + nn i * nn i ≤ _
    omega
theorem sq_zero {nn : Nat → Nat} {S : UInt64} (h : Fv S 0) : SQ nn 0 S := by
  refine ⟨near_zero h, fun cs hc => ?_⟩
  have h0 : cs 0 = 0 := by
    have : 0 = cs 0 * cs 0 := hc 0 (Nat.le_refl _)
    rcases Nat.eq_zero_or_pos (cs 0) with h | h
    · exact h
    · have := Nat.mul_pos h h; omega
  rw [h0]
  exact dy_zero h _
theorem sq_step {nn : Nat → Nat} {i : Nat} {S B : UInt64} (hS : SQ nn i S) (hB : Dy B (nn i : Int) 1071) (hn : ∀ i, nn i ≤ 2 ^ 23) (hi : i ≤ 3) : SQ nn (i + 1) (vectorNorm [Float64.abs S, Float64.abs B]) ∧ NN (vectorNorm [Float64.abs S, Float64.abs B]) := by
  have ha := an_bnd hn i
  have ha2 : AN nn i ≤ 2 ^ 60 := by omega
  have hni := hn i
  obtain ⟨h1, h2⟩ := near_step hS.1 hB ha2 (Nat.le_trans hni (by decide)) (by omega)
  refine ⟨⟨h1, fun cs hc => ?_⟩, h2⟩
  have d := hS.2 cs fun j hj => hc j (by omega)
  have e0 := hc i (by omega)
  have e1 : AN nn i + nn i * nn i = cs (i + 1) * cs (i + 1) := hc (i + 1) (Nat.le_refl _)
  have hc36 : cs i < 2 ^ 36 := by
    rcases Nat.lt_or_ge (cs i) (2 ^ 36) with h | h
    · exact h
    · have := sq_mul_le h
      omega
  refine norm_exact2 d hB (by omega) (by omega) ?_ (by decide) (by decide)
  rw [e0] at e1
  exact_mod_cast e1
theorem told_num {r q u A : Nat} (hq : 0 < q) (hu : 1 ≤ u ∧ u ≤ 5) (p2 : A * 2 ^ 142 * 2 ^ 37 ≤ r * r * 2 ^ 37 + A * 2 ^ 142 * 16) (g : q * q * (u * u) * 1073741825 ≤ A * 1073741824) (hr : r ≤ q * (u * 2 ^ 71 + 2 ^ 20)) : False := by
  have h1 := sq_mul_le hr
  have e1 : q * (u * 2 ^ 71 + 2 ^ 20) * (q * (u * 2 ^ 71 + 2 ^ 20)) = q * q * ((u * 2 ^ 71 + 2 ^ 20) * (u * 2 ^ 71 + 2 ^ 20)) := by ac_rfl
  rw [e1] at h1
  have hqq := Nat.mul_pos hq hq
  generalize q * q = Q at *
  generalize r * r = rr at *
  have hu' : u = 1 ∨ u = 2 ∨ u = 3 ∨ u = 4 ∨ u = 5 := by omega
  clear hr e1
  rcases hu' with rfl | rfl | rfl | rfl | rfl <;> simp only [Nat.reduceMul, Nat.reducePow, Nat.reduceAdd, Nat.one_mul, Nat.mul_one, Nat.mul_assoc] at h1 g p2 <;> omega
end Mine

end L2e
section L2f
open PySem PySem.W PySem.Calls PyProof.Rows
open PySem.Builtin.Math
set_option linter.unusedVariables false
set_option exponentiation.threshold 3000
namespace Mine
open PySem.Float64 (V Right dist infMag pack decode val sgn)
theorem cancel_O {v : Int} {q R O E : Nat} (hO : 0 < O) (h : 2 * (v * ((q : Int) * (O : Int)) - (R : Int) * (O : Int)).natAbs ≤ q * O * E) : 2 * (v * (q : Int) - R).natAbs ≤ q * E := by
  have e : v * ((q : Int) * (O : Int)) - (R : Int) * (O : Int) = (v * q - R) * O := by rw [Int.sub_mul]; congr 1; ac_rfl
  rw [e, Int.natAbs_mul, Int.natAbs_natCast, ← Nat.mul_assoc, Nat.mul_right_comm q] at h
  exact Nat.le_of_mul_le_mul_right h hO
theorem fin_le {vq : Int} {a b c : Nat} (h : 2 * (vq - (c : Int)).natAbs ≤ 2 * b) (h1 : vq ≤ (a : Int)) : c ≤ a + b := by omega
theorem co_aux {vq : Int} {a b R : Nat} (hb : 0 < b) (h : 2 * (vq - (R : Int)).natAbs ≤ 2 ^ 60 * b) (hR : 2 ^ 74 * b < R) (h1 : vq ≤ (a : Int)) (h2 : a ≤ 5 * 2 ^ 71 * b) : False := by omega
theorem fine_r {r q Y u E : Nat} {v : Int} (hY : 0 < Y) (hE : E = 2 ^ 21 * Y) (h : 2 * (v * (q : Int) - ((r * Y : Nat) : Int)).natAbs ≤ q * E) (hv : v ≤ ((u * 2 ^ 71 * Y : Nat) : Int)) : r ≤ q * (u * 2 ^ 71 + 2 ^ 20) := by
  have h1 : v * (q : Int) ≤ ((u * 2 ^ 71 * Y : Nat) : Int) * (q : Int) := Int.mul_le_mul_of_nonneg_right hv (Int.natCast_nonneg q)
  rw [← Int.natCast_mul] at h1
  have h2 : q * E = 2 * (q * 2 ^ 20 * Y) := by
    rw [hE, show (2 : Nat) ^ 21 = 2 * 2 ^ 20 by decide]; ac_rfl
  rw [h2] at h
  refine Nat.le_of_mul_le_mul_right (c := Y) ?_ hY
  have h3 : q * (u * 2 ^ 71 + 2 ^ 20) * Y = u * 2 ^ 71 * Y * q + q * 2 ^ 20 * Y := by
    rw [Nat.mul_add, Nat.add_mul]; congr 1; ac_rfl
  rw [h3]
  exact fin_le h h1
theorem coarse_r {R q Y u E : Nat} {v : Int} (hq : 0 < q) (hY : 0 < Y) (hE : E = 2 ^ 60 * Y) (h : 2 * (v * (q : Int) - (R : Int)).natAbs ≤ q * E) (hR : q * (2 ^ 74 * Y) < R) (hu : u ≤ 5) : ((u * 2 ^ 71 * Y : Nat) : Int) < v := by
  rcases Int.lt_or_le ((u * 2 ^ 71 * Y : Nat) : Int) v with h1 | h1
  · exact h1
  · exfalso
    have h1 : v * (q : Int) ≤ ((u * 2 ^ 71 * Y : Nat) : Int) * (q : Int) := Int.mul_le_mul_of_nonneg_right h1 (Int.natCast_nonneg q)
    rw [← Int.natCast_mul] at h1
    have h2 : u * 2 ^ 71 * Y * q ≤ 5 * 2 ^ 71 * Y * q := Nat.mul_le_mul_right _ (Nat.mul_le_mul_right _ (Nat.mul_le_mul_right _ hu))
    have h3 : 5 * 2 ^ 71 * Y * q = 5 * 2 ^ 71 * (q * Y) := by ac_rfl
    have h4 : q * E = 2 ^ 60 * (q * Y) := by rw [hE]; ac_rfl
    have h5 : q * (2 ^ 74 * Y) = 2 ^ 74 * (q * Y) := by ac_rfl
    rw [h3] at h2
    rw [h4] at h
    rw [h5] at hR
    have hqY := Nat.mul_pos hq hY
    exact co_aux hqY h hR h1 h2
/-- not alike: the spread of the quotient is larger than the unit -/
theorem told_gt {S : UInt64} {A u : Nat} {q : Int} (hS : Near S A 16) (hA : A ≤ 2 ^ 60) (hq0 : 0 < q.natAbs) (hq2 : q.natAbs < 2 ^ 53) (hu : 1 ≤ u ∧ u ≤ 5) (g : q.natAbs * q.natAbs * (u * u) * 1073741825 ≤ A * 1073741824) :
    ∃ v : Int, Fv (Float64.div S (Float64.abs (Float64.ofInt q))) v ∧ ((u * 2 ^ 71 * 2 ^ 1000 : Nat) : Int) < v := by
  obtain ⟨r, hr, p1, p2⟩ := hS
  have hd : Fv (Float64.abs (Float64.ofInt q)) (((q.natAbs * 2 ^ 1074 : Nat)) : Int) := dy_fv (dy_abs (dy_ofInt hq2))
  have hb0 : (((q.natAbs * 2 ^ 1074 : Nat)) : Int) ≠ 0 := Int.ofNat_ne_zero.mpr (Nat.pos_iff_ne_zero.mp (Nat.mul_pos hq0 (Nat.two_pow_pos _)))
  have hr' := dy_fv hr
  have hr2 : r ≤ 2 ^ 103 := by
    have h16 : A * 2 ^ 142 * 16 ≤ 16 * (A * 2 ^ 142) := Nat.le_of_eq (Nat.mul_comm _ _)
    rcases Nat.lt_or_ge r (2 ^ 103) with h1 | h1
    · exact Nat.le_of_lt h1
    · exfalso
      have := sq_mul_le h1
      clear hr hd hb0 hr'
      generalize r * r = rr at *
      omega
  have hY : 0 < (2 : Nat) ^ 1000 := Nat.two_pow_pos _
  by_cases hc : r * 2 ^ 1000 ≤ q.natAbs * (2 ^ 74 * 2 ^ 1000)
  · obtain ⟨v, hv, ev⟩ := div_err (P := 1074) hr' hd hb0 (by decide) (by decide) (by
      rw [Int.natAbs_natCast, Int.natAbs_natCast, Nat.mul_comm (r * 2 ^ 1000), Nat.mul_assoc q.natAbs, Nat.mul_left_comm q.natAbs]
      exact Nat.mul_le_mul_left _ (Nat.le_trans hc (Nat.le_of_eq (congrArg (q.natAbs * ·) (pow_cat (a := 74) (b := 1000) (c := 1074) rfl)))))
    refine ⟨v, hv, ?_⟩
    have ev := cancel_O (v := v) (q := q.natAbs) (R := r * 2 ^ 1000) (O := 2 ^ 1074) (E := 2 ^ (1074 - 53)) (Nat.two_pow_pos _) (by
      have := ev
      simp only [Int.natCast_mul, Int.natCast_pow, Int.natAbs_mul, Int.natAbs_natCast, Int.natAbs_pow] at this ⊢
      exact this)
    rcases Int.lt_or_le ((u * 2 ^ 71 * 2 ^ 1000 : Nat) : Int) v with h1 | h1
    · exact h1
    · exact absurd (told_num hq0 hu p2 g (fine_r hY (pow_cat (a := 21) (b := 1000) (c := 1074 - 53) rfl).symm ev h1)) id
  · obtain ⟨v, hv, ev⟩ := div_err (P := 1113) hr' hd hb0 (by decide) (by decide) (by
      rw [Int.natAbs_natCast, Int.natAbs_natCast, Nat.mul_comm (r * 2 ^ 1000), Nat.mul_assoc q.natAbs, Nat.mul_left_comm q.natAbs]
      refine Nat.mul_le_mul_left _ (Nat.le_trans (Nat.mul_le_mul_right _ hr2) ?_)
      refine Nat.le_trans (Nat.le_of_eq (pow_cat (a := 103) (b := 1000) (c := 1103) rfl)) (Nat.le_trans (Nat.pow_le_pow_right (by decide) (by decide)) (Nat.le_mul_of_pos_left _ hq0)))
    refine ⟨v, hv, ?_⟩
    have ev := cancel_O (v := v) (q := q.natAbs) (R := r * 2 ^ 1000) (O := 2 ^ 1074) (E := 2 ^ (1113 - 53)) (Nat.two_pow_pos _) (by
      have := ev
      simp only [Int.natCast_mul, Int.natCast_pow, Int.natAbs_mul, Int.natAbs_natCast, Int.natAbs_pow] at this ⊢
      exact this)
    exact coarse_r hq0 hY (pow_cat (a := 60) (b := 1000) (c := 1113 - 53) rfl).symm ev (Nat.lt_of_not_le hc) hu.2
end Mine

end L2f
section L2g
open PySem PySem.W PySem.Calls PyProof.Rows
open PySem.Builtin.Math
set_option linter.unusedVariables false
set_option exponentiation.threshold 3000
namespace Mine
open PySem.Float64 (V Right dist infMag pack decode val sgn)
theorem V_double {t : Nat} (h : 2 ^ 52 ≤ t) : V (t + 2 ^ 52) = 2 * V t := by
  obtain ⟨k, q, e, hq, hk, hV⟩ := Float64.V_form t
  have hq2 : 2 ^ 52 ≤ q := by
    rcases hk with h' | h'
    · exact h'
    · subst h'; omega
  have := Float64.V_at (k := k + 1) (q := q) (by omega) (.inl hq2)
  have e2 : t + 2 ^ 52 = (k + 1) * 2 ^ 52 + q := by omega
  rw [e2, this, hV, Nat.pow_succ]
  generalize (2 : Nat) ^ k = z
  rw [Nat.mul_comm z 2, Nat.mul_left_comm]
theorem big_index {t : Nat} (h : 2 ^ 54 ≤ V t) : 2 ^ 53 ≤ t := by
  rcases Nat.lt_or_ge t (2 ^ 53) with h1 | h1
  · exfalso
    have h2 := Float64.V_mono (Nat.le_of_lt h1)
    have h3 := Float64.V_at (k := 1) (q := 2 ^ 52) (by decide) (.inl (by decide))
    rw [show 1 * 2 ^ 52 + 2 ^ 52 = 2 ^ 53 by decide] at h3
    rw [h3] at h2
    omega
  · exact h1
theorem mid_aux {W x y m : Nat} (h1 : x < m) (h2 : m < y) (h : dist W x = dist W y) : dist W m < dist W x := by
  unfold dist at *; omega
theorem mid_aux2 {W x y m : Nat} (h1 : x < m) (h2 : m < y) (h : dist W x = dist W y) : dist W m < dist W y := by
  unfold dist at *; omega
theorem near_double {W D a b : Nat} (hD : 0 < D) (ha : 2 ^ 54 ≤ V a) (hb : 2 ^ 54 ≤ V b)
    (h1 : ∀ t', dist W (2 * D * V a) ≤ dist W (2 * D * V t') ∧ (V t' ≠ V a → dist W (2 * D * V a) = dist W (2 * D * V t') → a % 2 = 0))
    (h2 : ∀ t', dist W (D * V b) ≤ dist W (D * V t') ∧ (V t' ≠ V b → dist W (D * V b) = dist W (D * V t') → b % 2 = 0)) : V b = 2 * V a := by
  have a0 := big_index ha
  have b0 := big_index hb
  have va := V_double (t := a) (by omega)
  obtain ⟨s, rfl⟩ : ∃ s, b = s + 2 ^ 52 := ⟨b - 2 ^ 52, by omega⟩
  have vs := V_double (t := s) (by omega)
  have e1 : 2 * D * V s = D * V (s + 2 ^ 52) := by rw [vs]; ac_rfl
  have e2 : 2 * D * V a = D * V (a + 2 ^ 52) := by rw [va]; ac_rfl
  have k1 := (h1 s).1
  have k2 := (h2 (a + 2 ^ 52)).1
  rw [e1, e2] at k1
  have ke := Nat.le_antisymm k1 k2
  rw [← va]
  apply Classical.byContradiction
  intro hne
  have hsa : V s ≠ V a := fun h => hne (by rw [vs, va, h])
  have ev1 := (h1 s).2 hsa (by rw [e1, e2]; exact ke)
  have ev2 := (h2 (a + 2 ^ 52)).2 (Ne.symm hne) ke.symm
  have hidx : s ≠ a := fun h => hsa (by rw [h])
  have mulD : ∀ {x y : Nat}, V x < V y → D * V x < D * V y := fun h => Nat.mul_lt_mul_of_pos_left h hD
  rcases Nat.lt_or_gt_of_ne hidx with h | h
  · have m1 := mulD (Float64.V_lt (show s + 2 ^ 52 < s + 2 ^ 52 + 1 by omega))
    have m2 := mulD (Float64.V_lt (show s + 2 ^ 52 + 1 < a + 2 ^ 52 by omega))
    have := mid_aux m1 m2 ke.symm
    have := (h2 (s + 2 ^ 52 + 1)).1
    omega
  · have m1 := mulD (Float64.V_lt (show a + 2 ^ 52 < a + 2 ^ 52 + 1 by omega))
    have m2 := mulD (Float64.V_lt (show a + 2 ^ 52 + 1 < s + 2 ^ 52 by omega))
    have := mid_aux2 m1 m2 ke
    have := (h2 (a + 2 ^ 52 + 1)).1
    omega
theorem nat_sgn {b : Bool} {n : Nat} {v : Int} (h : sgn b n = v) (hv : 0 < v) : (n : Int) = v ∧ b = false := by
  rw [sgn_eq] at h
  cases b
  · exact ⟨by simpa using h, rfl⟩
  · simp only [if_true] at h; omega
theorem half_core {x1 x2 : UInt64} {sg : Bool} {W D : Nat} {v : Int} (R1 : Right x1 sg W (2 * D)) (R2 : Right x2 sg W D) (hDp : 0 < D) (hW : W ≤ D * (1 * 2 ^ 1104)) (hlow : D * 2 ^ 60 ≤ W) (hv : Fv x1 v) (hv1 : 2 ^ 60 ≤ v) : Fv x2 (2 * v) := by
  obtain ⟨t1, x1, ht1, hov1, hn1⟩ := R1
  obtain ⟨t2, x2, ht2, hov2, hn2⟩ := R2
  have l1 : t1 < infMag := Nat.lt_of_le_of_ne ht1 fun e => not_over (q := 1) (j := 1104) (D := 2 * D) (by omega) (Nat.le_trans hW (Nat.mul_le_mul_right _ (by omega))) (by decide) (by decide) (hov1.mp e)
  have l2 : t2 < infMag := Nat.lt_of_le_of_ne ht2 fun e => not_over (q := 1) (j := 1104) (D := D) hDp hW (by decide) (by decide) (hov2.mp e)
  have f1 := fv_pack sg l1
  have f2 := fv_pack sg l2
  rw [← x1] at f1
  rw [← x2] at f2
  obtain ⟨g1, gs⟩ := nat_sgn (fv_uniq f1 hv) (by omega)
  rw [gs, sgn_eq, if_neg (by decide)] at f2
  have hn1 := hn1 l1
  have hn2 := hn2 l2
  have b1 : 2 ^ 54 ≤ V t1 := by omega
  have b2 : 2 ^ 54 ≤ V t2 := by
    rcases Nat.lt_or_ge (V t2) (2 ^ 54) with h | h
    · exfalso
      obtain ⟨t0, _, hV0⟩ := repr_V 60 1 (by decide) (by decide)
      have h3 := (hn2 t0).1
      rw [hV0] at h3
      have h4 : D * V t2 ≤ D * 2 ^ 54 := Nat.mul_le_mul_left _ (Nat.le_of_lt h)
      have h5 : D * (1 * 2 ^ 60) = D * 2 ^ 60 := by rw [Nat.one_mul]
      rw [h5] at h3
      have h6 : D * 2 ^ 54 < D * 2 ^ 60 := Nat.mul_lt_mul_of_pos_left (by decide) hDp
      clear hW hn1 hn2
      unfold dist at h3
      omega
    · exact h
  have := near_double hDp b1 b2 hn1 hn2
  rw [this, Int.natCast_mul, g1] at f2
  exact f2
theorem half_W {r q : Nat} (hq0 : 0 < q) (hr : r ≤ 2 ^ 103) : r * 2 ^ 1000 * 2 ^ 1074 ≤ q * 2 ^ 1073 * (1 * 2 ^ 1104) := by
  have h2 : (2 : Nat) ^ 103 * 2 ^ 1000 * 2 ^ 1074 = 2 ^ 1073 * 2 ^ 1104 :=
    (congrArg (· * 2 ^ 1074) (pow_cat (a := 103) (b := 1000) (c := 1103) rfl)).trans ((pow_cat (a := 1103) (b := 1074) (c := 2177) rfl).trans (pow_cat (a := 1073) (b := 1104) (c := 2177) rfl).symm)
  rw [Nat.one_mul]
  exact Nat.le_trans (Nat.mul_le_mul_right _ (Nat.mul_le_mul_right _ hr)) (Nat.le_trans (Nat.le_of_eq h2) (Nat.mul_le_mul_right _ (Nat.le_mul_of_pos_left _ hq0)))
theorem half_low {r q : Nat} (hq : q ≤ 2 ^ 40) (hr : 0 < r) : q * 2 ^ 1073 * 2 ^ 60 ≤ r * 2 ^ 1000 * 2 ^ 1074 := by
  have h2 : (2 : Nat) ^ 40 * 2 ^ 1073 * 2 ^ 60 = 2 ^ 1173 :=
    (congrArg (· * 2 ^ 60) (pow_cat (a := 40) (b := 1073) (c := 1113) rfl)).trans (pow_cat (a := 1113) (b := 60) (c := 1173) rfl)
  have h3 : (2 : Nat) ^ 1000 * 2 ^ 1074 = 2 ^ 2074 := pow_cat rfl
  refine Nat.le_trans (Nat.mul_le_mul_right _ (Nat.mul_le_mul_right _ hq)) (Nat.le_trans (Nat.le_of_eq h2) ?_)
  rw [Nat.mul_assoc, h3]
  exact Nat.le_trans (Nat.pow_le_pow_right (by decide) (by decide)) (Nat.le_mul_of_pos_left _ hr)
/-- divided by half as much it is twice as large, to the last place -/
theorem div_half {S B H : UInt64} {r q : Nat} {v : Int} (hS : Dy S (r : Int) 1000) (hB : Dy B (q : Int) 1074) (hH : Dy H (q : Int) 1073) (hq0 : 0 < q) (hq : q ≤ 2 ^ 40) (hr0 : 0 < r) (hr : r ≤ 2 ^ 103) (hv : Fv (Float64.div S B) v) (hv1 : 2 ^ 60 ≤ v) : Fv (Float64.div S H) (2 * v) := by
  have hS' := dy_fv hS
  have hB' := dy_fv hB
  have hH' := dy_fv hH
  obtain ⟨m2, e2, hd2, hm2, hv2⟩ := fv_pos hB' (Int.natCast_pos.mpr (Nat.mul_pos hq0 (Nat.two_pow_pos 1074)))
  obtain ⟨m3, e3, hd3, hm3, hv3⟩ := fv_pos hH' (Int.natCast_pos.mpr (Nat.mul_pos hq0 (Nat.two_pow_pos 1073)))
  obtain ⟨s, m, e, hd, hvS⟩ := hS'
  have R1 := Float64.div_right hd hd2 hm2
  have R2 := Float64.div_right hd hd3 hm3
  rw [hvS, hv2, Int.natAbs_natCast, Int.natAbs_natCast] at R1
  rw [hvS, hv3, Int.natAbs_natCast, Int.natAbs_natCast] at R2
  have hD : q * 2 ^ 1074 = 2 * (q * 2 ^ 1073) := by
    have := pow_cat (a := 1) (b := 1073) (c := 1074) rfl
    rw [← this]; ac_rfl
  rw [hD] at R1
  exact half_core R1 R2 (Nat.mul_pos hq0 (Nat.two_pow_pos _)) (half_W hq0 hr) (half_low hq hr0) hv hv1
end Mine

end L2g
section RD
open PySem PySem.W PySem.Calls PyProof.Rows
set_option Elab.async false
set_option linter.unusedVariables false
namespace Mine
/-- a reading: the normal's object, its dict, its floats -/
structure Rd where
  x : Addr
  dx : Addr
  mu : UInt64
  sg : UInt64
  t1 : Tok
  t2 : Tok
abbrev rone (r : Rd) : List (Addr × Obj) := [(r.x, ndO r.dx (.float r.mu r.t1) (.float r.sg r.t2)), (r.dx, dictOf [] 0)]
def rled (rs : List Rd) : List (Addr × Obj) := rs.flatMap rone
theorem rled_snoc (rs : List Rd) (r : Rd) : rled (rs ++ [r]) = rled rs ++ rone r := by
  unfold rled
  simp [List.flatMap_append]
theorem rled_mem {rs : List Rd} {r : Rd} (h : r ∈ rs) : (r.x, ndO r.dx (.float r.mu r.t1) (.float r.sg r.t2)) ∈ rled rs ∧ (r.dx, dictOf [] 0) ∈ rled rs :=
  ⟨List.mem_flatMap.mpr ⟨r, h, .head _⟩, List.mem_flatMap.mpr ⟨r, h, .tail _ (.head _)⟩⟩
def ElR (P : Int → UInt64 → UInt64 → Prop) (k : Int) (news nw : List (Addr × Obj)) (y : Value) (news' : List (Addr × Obj)) : Prop := ∃ r : Rd, y = .ref r.x ∧ news' = news ++ (nw ++ rone r) ∧ P k r.mu r.sg
/-- a comprehension over a range whose elements are new normals; the new entries at the ledger's tail -/
theorem rest_objs {prog : Program} {w : World} {A : Around} {h₀ : Heap} {L : Addr} {m : Str → Option Value} {env : Env} {elt : PySem.Expr} {x : Str} {scope : Scope} {cl : List (Str × Addr)} {s : Shared} {Fin : List Value → List (Addr × Obj) → Prop} {news : List (Addr × Obj)} {n : Nat} (P : Int → UInt64 → UInt64 → Prop)
    (turn : ∀ k t I oI C oC D m₂ ys nw h tk (E' : Value → Shared → Prop), 0 ≤ k → k < 0 + (n : Int) → LCg.NsObj oC m₂ → m₂ x = some (.int k t) → Fr h₀ L h m → News h₀ L h ((I, oI) :: (C, oC) :: (D, LCg.lst ys) :: (news ++ nw)) → LCg.Off3 I C D (news ++ nw) → ((@Ne Nat I C) ∧ (@Ne Nat I D) ∧ (@Ne Nat C D)) →
      wpAny (model prog w) A (eval elt (compEnvC scope cl C env)) (LCg.CompEnd h₀ L m { s with heap := h, toks := tk } I oI C oC D (LCg.lst ys) (fun _ => True) (fun y news' => ElR P k news nw y news')) E' { s with heap := h, toks := tk })
    (fin : ∀ rs : List Rd, rs.length = n → (∀ (i : Nat) (r : Rd), rs[i]? = some r → P (0 + (i : Int)) r.mu r.sg) → Fin (rs.map fun r => Value.ref r.x) (news ++ rled rs)) :
    LCg.CompRest prog w A h₀ L m env elt x scope cl s (fun _ => True) (fun i v => ∃ t, v = .int (0 + (i : Int)) t) Fin n 0 [] news := by
  have key : ∀ (j i : Nat) (rs : List Rd), i + j = n → rs.length = i → (∀ (i : Nat) (r : Rd), rs[i]? = some r → P (0 + (i : Int)) r.mu r.sg) → LCg.CompRest prog w A h₀ L m env elt x scope cl s (fun _ => True) (fun i v => ∃ t, v = .int (0 + (i : Int)) t) Fin j i (rs.map fun r => Value.ref r.x) (news ++ rled rs) := by
    intro j
    induction j with
    | zero =>
      intro i rs hi hl hr
      exact LCg.CompRest.zero (fin rs (by omega) hr)
    | succ j ih =>
      intro i rs hi hl hr
      refine LCg.CompRest.succ ?_
      intro v I oI C oC D m₂ h tk E' hv hC hx F N off ne
      obtain ⟨t, rfl⟩ := hv
      refine wpAny_mono (turn (0 + (i : Int)) t I oI C oC D m₂ _ (rled rs) h tk E' (by omega) (by omega) hC hx F N off ne) (fun y s₂ hq => ?_) fun _ _ e => e
      obtain ⟨h', tk', nw', e, F', N', off', hS, r, hy, hn, hP⟩ := hq
      subst hn
      subst hy
      refine ⟨h', tk', news ++ (rled rs ++ rone r), e, F', N', off', trivial, ?_⟩
      have := ih (i + 1) (rs ++ [r]) (by omega) (by rw [List.length_append, hl]; rfl) (fun i' r' h' => by
        rcases Nat.lt_or_ge i' rs.length with h1 | h1
        · rw [List.getElem?_append_left h1] at h'
          exact hr i' r' h'
        · rw [List.getElem?_append_right h1] at h'
          have h2 : i' - rs.length = 0 := by
            rcases Nat.eq_zero_or_pos (i' - rs.length) with h3 | h3
            · exact h3
            · rw [List.getElem?_eq_none (show [r].length ≤ i' - rs.length from h3)] at h'
              cases h'
          rw [h2] at h'
          obtain rfl : r = r' := by simpa using h'
          have h3 : i' = i := by omega
          subst h3
          exact hP)
      rw [rled_snoc, List.map_append] at this
      exact this
  have := key n 0 [] (by omega) rfl (fun i r h => by simp at h)
  simpa [rled] using this
theorem rest_objs2 {prog : Program} {w : World} {A : Around} {h₀ : Heap} {L : Addr} {m : Str → Option Value} {env : Env} {elt : PySem.Expr} {x : Str} {scope : Scope} {cl : List (Str × Addr)} {s : Shared} {Fin : List Value → List (Addr × Obj) → Prop} {news : List (Addr × Obj)} {n : Nat} {MU SG : Int → UInt64}
    (turn : ∀ k t I oI C oC D m₂ ys nw h tk (E' : Value → Shared → Prop), 0 ≤ k → k < 0 + (n : Int) → LCg.NsObj oC m₂ → m₂ x = some (.int k t) → Fr h₀ L h m → News h₀ L h ((I, oI) :: (C, oC) :: (D, LCg.lst ys) :: (news ++ nw)) → LCg.Off3 I C D (news ++ nw) → ((@Ne Nat I C) ∧ (@Ne Nat I D) ∧ (@Ne Nat C D)) →
      wpAny (model prog w) A (eval elt (compEnvC scope cl C env)) (LCg.CompEnd h₀ L m { s with heap := h, toks := tk } I oI C oC D (LCg.lst ys) (fun _ => True) (fun y news' => ElR (fun k mu sg => mu = MU k ∧ sg = SG k) k news nw y news')) E' { s with heap := h, toks := tk })
    (fin : ∀ rs : List Rd, rs.length = n → (∀ (i : Nat) (r : Rd), rs[i]? = some r → (r.mu = MU (0 + (i : Int)) ∧ r.sg = SG (0 + (i : Int)))) → Fin (rs.map fun r => Value.ref r.x) (news ++ rled rs)) :
    LCg.CompRest prog w A h₀ L m env elt x scope cl s (fun _ => True) (fun i v => ∃ t, v = .int (0 + (i : Int)) t) Fin n 0 [] news := rest_objs _ turn fin
/-- the end of such an element; fresh: the two new objects are none of the ledger's -/
theorem compEnd_nd {h₀ : Heap} {L I C D x dx : Addr} {m : Str → Option Value} {s₁ : Shared} {oI oC : Obj} {ys : List Value} {mu sg : UInt64} {t1 t2 : Tok} {h' : Heap} {tk : Nat} {news nw : List (Addr × Obj)} {P : Int → UInt64 → UInt64 → Prop} {k : Int}
    (F : Fr h₀ L h' m) (N : News h₀ L h' ((x, ndO dx (.float mu t1) (.float sg t2)) :: (dx, dictOf [] 0) :: (I, oI) :: (C, oC) :: (D, LCg.lst ys) :: (news ++ nw))) (off : LCg.Off3 I C D (news ++ nw))
    (fr : ∀ p ∈ (I, oI) :: (C, oC) :: (D, LCg.lst ys) :: (news ++ nw), p.1 ≠ x ∧ p.1 ≠ dx) (hP : P k mu sg) :
    LCg.CompEnd h₀ L m s₁ I oI C oC D (LCg.lst ys) (fun _ => True) (fun y news' => ElR P k news nw y news') (.ref x) { s₁ with heap := h', toks := tk } := by
  obtain ⟨e1, e4⟩ := fr _ (.head _)
  obtain ⟨e2, e5⟩ := fr _ (.tail _ (.head _))
  obtain ⟨e3, e6⟩ := fr _ (.tail _ (.tail _ (.head _)))
  refine LCg.CompEnd.intro F N (news ++ (nw ++ rone ⟨x, dx, mu, sg, t1, t2⟩)) ?_ (LCg.Off3.of ?_) trivial ⟨⟨x, dx, mu, sg, t1, t2⟩, rfl, rfl, hP⟩
  · intro p hp
    simp only [List.mem_cons, List.mem_append, List.not_mem_nil, or_false] at hp ⊢
    rcases hp with h | h | h | h | h | h | h <;> simp [h]
  · intro p hp
    rw [← List.append_assoc] at hp
    rcases List.mem_append.mp hp with h | h
    · exact off.mem p h
    · simp only [List.mem_cons, List.not_mem_nil, or_false] at h
      rcases h with rfl | rfl
      · exact ⟨Ne.symm e1, Ne.symm e2, Ne.symm e3⟩
      · exact ⟨Ne.symm e4, Ne.symm e5, Ne.symm e6⟩
end Mine

end RD
section W2P
open PySem PySem.W PySem.Calls PyProof.Rows
set_option Elab.async false
set_option linter.unusedVariables false
namespace Mine
def Stop (p : Prop) : Prop := p
theorem Stop.of {p : Prop} (h : Stop p) : p := h
theorem Stop.goes {p : Prop} (h : p) : Stop p := h
structure GoOn : Prop where
theorem cells_cons {cm : Str → Option Value} {n : Str} {c : Addr} {cs : List (Str × Addr)} {cells : List (Addr × Obj)} (x : CellsAre cm ((n, c) :: cs) cells) : ∃ o r, cells = (c, o) :: r ∧ o.data = .cell (cm n) ∧ CellsAre cm cs r := by
  cases x with | cons h r => exact ⟨_, _, rfl, h, r⟩
theorem cells_nil {cm : Str → Option Value} {cells : List (Addr × Obj)} (x : CellsAre cm [] cells) : cells = [] := by
  cases x; rfl
theorem store_gen {M : Model} {A : Around} {env : Env} {x : Str} {e : Int} {t : Tok} {Q : Unit → Shared → Prop} {E : Value → Shared → Prop} {s : Shared} (h : ∀ (v : Int) (t' : Tok), Flt.Hid (v = e) → wpAny M A (storeName env x (.int v t')) Q E s) : wpAny M A (storeName env x (.int e t)) Q E s := h e t ⟨rfl⟩
theorem store_genF {M : Model} {A : Around} {env : Env} {x : Str} {e : Int} {t : Tok} {Q : Unit → Shared → Prop} {E : Value → Shared → Prop} {s : Shared} (hb : -1048576 < e ∧ e < 1048576) (h : ∀ (v : UInt64) (t' : Tok), Dy v e 1071 → wpAny M A (storeName env x (.float v t')) Q E s) : wpAny M A (storeName env x (.float (m8 e) t)) Q E s := h _ t (dy_m8 hb)
theorem div8 {prog : Program} {w : World} {A : Around} {E : Value → Shared → Prop} {s : Shared} {Q : Value → Shared → Prop} {a : Int} {t u : Tok} (hA : A.handled = none) (hfit : a.natAbs < 2 ^ 62) (h : Q (.float (m8 a) s.toks) { s with toks := s.toks + 1 }) : wpAny (model prog w) A (binaryOp .Div (.int a t) (.int 8 u)) Q E s :=
  Flt.div_ii_fits hA (Nat.lt_trans hfit (by decide +kernel)) (fun h => absurd h (by decide)) fun _ _ => h
theorem item_lit {prog : Program} {w : World} {A : Around} {E : Value → Shared → Prop} {s : Shared} {h₀ : Heap} {value slice : PySem.Expr} {L : Addr} {news : List (Addr × Obj)} {D : Addr} {vs : Array Value} {k : Int} {kn : Nat} {t : Tok} {v : Value} {Q : Value → Shared → Prop} (N : News h₀ L s.heap news) (hm : (D, ({ cls := .type "list", data := .seq vs kn } : Obj)) ∈ news)
    (h0 : 0 ≤ k) (hhi : k < 2 ^ 63) (hx : vs.toList[k.toNat]? = some v) (h : Q v s)
    (hs : subscripted slice false (.ref D) (.int k t) = operate [.ref D, .int k t] (getItem (.ref D) (.int k t)) := by with_unfolding_all rfl) :
    wpAny (model prog w) A (subscriptTail value slice (.ref D) (.int k t)) Q E s := by
  have hl : s.heap.IsList D vs := ⟨_, (N _ hm).1, rfl, kn, rfl⟩
  exact tail_any hl.typeIs slot_list_getitem.lookup (wpAny_getItem_list hl h0 hhi (by simpa using hx) h) hs
theorem tab3 {prog : Program} {w : World} {A : Around} {E : Value → Shared → Prop} {s : Shared} {h₀ : Heap} {value slice : PySem.Expr} {L : Addr} {news : List (Addr × Obj)} {D : Addr} {a b c : Int} {ta tb tc : Tok} {k : Int} {kn : Nat} {t : Tok} {Q : Value → Shared → Prop} (N : News h₀ L s.heap news) (hm : (D, ({ cls := .type "list", data := .seq #[Value.int a ta, Value.int b tb, Value.int c tc] kn } : Obj)) ∈ news)
    (hk : 0 ≤ k ∧ k < 3) (h : ∀ t', Q (.int (if k = 0 then a else if k = 1 then b else c) t') s)
    (hs : subscripted slice false (.ref D) (.int k t) = operate [.ref D, .int k t] (getItem (.ref D) (.int k t)) := by with_unfolding_all rfl) :
    wpAny (model prog w) A (subscriptTail value slice (.ref D) (.int k t)) Q E s := by
  have hk' : k = 0 ∨ k = 1 ∨ k = 2 := by omega
  rcases hk' with rfl | rfl | rfl
  · exact item_lit N hm (by decide) (by decide) rfl (h ta) hs
  · exact item_lit N hm (by decide) (by decide) rfl (h tb) hs
  · exact item_lit N hm (by decide) (by decide) rfl (h tc) hs
theorem tab4 {prog : Program} {w : World} {A : Around} {E : Value → Shared → Prop} {s : Shared} {h₀ : Heap} {value slice : PySem.Expr} {L : Addr} {news : List (Addr × Obj)} {D : Addr} {a b c d : Int} {ta tb tc td : Tok} {k : Int} {kn : Nat} {t : Tok} {Q : Value → Shared → Prop} (N : News h₀ L s.heap news) (hm : (D, ({ cls := .type "list", data := .seq #[Value.int a ta, Value.int b tb, Value.int c tc, Value.int d td] kn } : Obj)) ∈ news)
    (hk : 0 ≤ k ∧ k < 4) (h : ∀ t', Q (.int (if k = 0 then a else if k = 1 then b else if k = 2 then c else d) t') s)
    (hs : subscripted slice false (.ref D) (.int k t) = operate [.ref D, .int k t] (getItem (.ref D) (.int k t)) := by with_unfolding_all rfl) :
    wpAny (model prog w) A (subscriptTail value slice (.ref D) (.int k t)) Q E s := by
  have hk' : k = 0 ∨ k = 1 ∨ k = 2 ∨ k = 3 := by omega
  rcases hk' with rfl | rfl | rfl | rfl
  · exact item_lit N hm (by decide) (by decide) rfl (h ta) hs
  · exact item_lit N hm (by decide) (by decide) rfl (h tb) hs
  · exact item_lit N hm (by decide) (by decide) rfl (h tc) hs
  · exact item_lit N hm (by decide) (by decide) rfl (h td) hs
theorem many_bnd {m x : Int} (h : m = 2 + Int.fmod x 3) : 2 ≤ m ∧ m ≤ 4 := by
  have h1 := Int.fmod_nonneg_of_pos x (b := 3) (by decide)
  have h2 := Int.fmod_lt_of_pos x (b := 3) (by decide)
  omega
theorem idx4 {k m : Int} (h0 : 0 ≤ k) (h : k < 0 + ((m - 0).toNat : Int)) (hm : m ≤ 4) : 0 ≤ k ∧ k < 4 := by omega
theorem idx_big {k m : Int} (h0 : 0 ≤ k) (h : k < 0 + ((m - 0).toNat : Int)) (hm : m ≤ 4) : k ≤ 1000000 := by omega
theorem idx63 {k m : Int} (h0 : 0 ≤ k) (h : k < 0 + ((m - 0).toNat : Int)) (hm : m ≤ 4) : k < 2 ^ 63 := by omega
theorem idx_n {k : Int} {n : Nat} (h : k < 0 + (n : Int)) : k < (n : Int) := by omega
theorem pw_ne {a : Int} {n : Nat} (ha : a ≠ 0) : a ^ n ≠ 0 := fun h => ha (by
  induction n with
  | zero => simp at h
  | succ n ih =>
    rw [Int.pow_succ] at h
    rcases Int.mul_eq_zero.mp h with h | h
    · exact ih h
    · exact h)
theorem pw_small {a k m : Int} (ha : a = 2 ∨ a = 4 ∨ a = 17) (h0 : 0 ≤ k) (h : k < 0 + ((m - 0).toNat : Int)) (hm : m ≤ 4) : (a ^ k.toNat).natAbs < 1073741824 := by
  have hk : k.toNat = 0 ∨ k.toNat = 1 ∨ k.toNat = 2 ∨ k.toNat = 3 := by omega
  rcases hk with e | e | e | e <;> rw [e] <;> rcases ha with rfl | rfl | rfl <;> decide
theorem t_ne (x : Int) : 1 + Int.fmod x 4 ≠ 0 := by
  have h1 := Int.fmod_nonneg_of_pos x (b := 4) (by decide)
  omega
theorem t_log (x : Int) : (1 + Int.fmod x 4).natAbs.log2 < 60 := by
  have h1 := Int.fmod_nonneg_of_pos x (b := 4) (by decide)
  have h2 := Int.fmod_lt_of_pos x (b := 4) (by decide)
  exact (Nat.log2_lt (by omega)).mpr (by omega)
theorem t_bits (x : Int) : Builtin.Int.intBits (1 + Int.fmod x 4) ≤ 64 := by
  have h1 := Int.fmod_nonneg_of_pos x (b := 4) (by decide)
  have h2 := Int.fmod_lt_of_pos x (b := 4) (by decide)
  exact intBits_le_64 (by omega) (by omega)
theorem l_bits {k : Int} : Builtin.Int.intBits (if k = 0 then 3 else if k = 1 then 4 else if k = 2 then 12 else 84) ≤ 64 := by
  refine intBits_le_64 ?_ ?_ <;> split <;> (try decide) <;> split <;> (try decide) <;> split <;> decide
theorem small_many {m : Int} (h2 : 2 ≤ m) (h4 : m ≤ 4) : Builtin.Range.small 0 m 1 = true := small_one (by decide) (by decide) (by omega) (by omega)
theorem size_many {m : Int} (h4 : m ≤ 4) : (m - 0).toNat ≤ sizeLine := by
  simp only [PySem.sizeLine_eq]; omega
theorem unit_b {x : Int} (h : 1 ≤ x ∧ x ≤ 5) : -1048576 < x ∧ x < 1048576 := by omega
theorem unit_fit {x : Int} (h : 1 ≤ x ∧ x ≤ 5) : x.natAbs < 2 ^ 62 := by omega
theorem unit_bnd (x : Int) : 1 ≤ 1 + Int.fmod x 5 ∧ 1 + Int.fmod x 5 ≤ 5 := by
  have h1 := Int.fmod_nonneg_of_pos x (b := 5) (by decide)
  have h2 := Int.fmod_lt_of_pos x (b := 5) (by decide)
  omega
theorem kc4 {cm : Str → Option Value} {n1 n2 n3 n4 : Str} {c1 c2 c3 c4 : Addr} {cs : List (Str × Addr)} {cells : List (Addr × Obj)} (x : CellsAre cm ((n1, c1) :: (n2, c2) :: (n3, c3) :: (n4, c4) :: cs) cells) :
    ∃ o1 o2 o3 o4 r, cells = (c1, o1) :: (c2, o2) :: (c3, o3) :: (c4, o4) :: r ∧ o1.data = .cell (cm n1) ∧ o2.data = .cell (cm n2) ∧ o3.data = .cell (cm n3) ∧ o4.data = .cell (cm n4) ∧ CellsAre cm cs r := by
  obtain ⟨o1, r1, rfl, h1, x⟩ := cells_cons x
  obtain ⟨o2, r2, rfl, h2, x⟩ := cells_cons x
  obtain ⟨o3, r3, rfl, h3, x⟩ := cells_cons x
  obtain ⟨o4, r4, rfl, h4, x⟩ := cells_cons x
  exact ⟨o1, o2, o3, o4, r4, rfl, h1, h2, h3, h4, x⟩
theorem kc_elim {cm : Str → Option Value} {n1 n2 n3 n4 n5 n6 n7 n8 n9 n10 n11 n12 : Str} {c1 c2 c3 c4 c5 c6 c7 c8 c9 c10 c11 c12 : Addr} {cells : List (Addr × Obj)} {P : List (Addr × Obj) → Prop} (x : CellsAre cm [(n1, c1), (n2, c2), (n3, c3), (n4, c4), (n5, c5), (n6, c6), (n7, c7), (n8, c8), (n9, c9), (n10, c10), (n11, c11), (n12, c12)] cells)
    (h : ∀ o1 o2 o3 o4 o5 o6 o7 o8 o9 o10 o11 o12 : Obj, o1.data = .cell (cm n1) → o2.data = .cell (cm n2) → o3.data = .cell (cm n3) → o4.data = .cell (cm n4) → o5.data = .cell (cm n5) → o6.data = .cell (cm n6) → o7.data = .cell (cm n7) → o8.data = .cell (cm n8) → o9.data = .cell (cm n9) → o10.data = .cell (cm n10) → o11.data = .cell (cm n11) → o12.data = .cell (cm n12) → P [(c1, o1), (c2, o2), (c3, o3), (c4, o4), (c5, o5), (c6, o6), (c7, o7), (c8, o8), (c9, o9), (c10, o10), (c11, o11), (c12, o12)]) : P cells := by
  obtain ⟨o1, o2, o3, o4, r1, rfl, h1, h2, h3, h4, x⟩ := kc4 x
  obtain ⟨o5, o6, o7, o8, r2, rfl, h5, h6, h7, h8, x⟩ := kc4 x
  obtain ⟨o9, o10, o11, o12, r3, rfl, h9, h10, h11, h12, x⟩ := kc4 x
  obtain rfl := cells_nil x
  exact h _ _ _ _ _ _ _ _ _ _ _ _ h1 h2 h3 h4 h5 h6 h7 h8 h9 h10 h11 h12
end Mine

end W2P
section W2F
open PySem PySem.W PySem.Calls PyProof.Rows
open PySem.Builtin.Math
set_option linter.unusedVariables false
set_option Elab.async false
namespace Mine
/-- the line's data as the walk makes them -/
structure LNS (n : Nat) (far : Int) (T P B : Int → Int) : Prop where
  ln : ∃ l : Nat → Int, Line n far l (fun i => T i) (fun i => B i) ∧ ∀ i : Nat, i < n → P i = l i * T i
theorem leg_pm {x c : Int} : c * (1 - 2 * x.fmod 2) = c ∨ c * (1 - 2 * x.fmod 2) = -c := by
  have h1 := Int.fmod_nonneg_of_pos x (b := 2) (by decide)
  have h2 := Int.fmod_lt_of_pos x (b := 2) (by decide)
  have h3 : x.fmod 2 = 0 ∨ x.fmod 2 = 1 := by omega
  rcases h3 with h | h <;> rw [h]
  · exact .inl (by omega)
  · exact .inr (by omega)
theorem tim_b (x : Int) : 1 ≤ 1 + x.fmod 4 ∧ 1 + x.fmod 4 ≤ 4 := by
  have h1 := Int.fmod_nonneg_of_pos x (b := 4) (by decide)
  have h2 := Int.fmod_lt_of_pos x (b := 4) (by decide)
  omega
theorem best_ex {l t : Int} (h : 1 ≤ t ∧ t ≤ 4) : (l * 12).fdiv t * t = 12 * l := by
  have h' : t = 1 ∨ t = 2 ∨ t = 3 ∨ t = 4 := by omega
  rcases h' with rfl | rfl | rfl | rfl
  · rw [show l * 12 = (l * 12) * 1 by omega, Int.mul_fdiv_cancel _ (by decide)]; omega
  · rw [show l * 12 = (l * 6) * 2 by omega, Int.mul_fdiv_cancel _ (by decide)]; omega
  · rw [show l * 12 = (l * 4) * 3 by omega, Int.mul_fdiv_cancel _ (by decide)]; omega
  · rw [show l * 12 = (l * 3) * 4 by omega, Int.mul_fdiv_cancel _ (by decide)]; omega
theorem far_of {m far : Int} (h2 : 2 ≤ m) (h4 : m ≤ 4) (hf : far = if m - 2 = 0 then 5 else if m - 2 = 1 then 13 else 85) : ((m - 0).toNat = 2 ∧ far = 5) ∨ ((m - 0).toNat = 3 ∧ far = 13) ∨ ((m - 0).toNat = 4 ∧ far = 85) := by
  have h : m = 2 ∨ m = 3 ∨ m = 4 := by omega
  rcases h with rfl | rfl | rfl
  · exact .inl ⟨rfl, hf⟩
  · exact .inr (.inl ⟨rfl, hf⟩)
  · exact .inr (.inr ⟨rfl, hf⟩)
theorem lns_mk {m far r0 r1 : Int} {T L P B : Int → Int} (h2 : 2 ≤ m) (h4 : m ≤ 4) (hf : far = if m - 2 = 0 then 5 else if m - 2 = 1 then 13 else 85)
    (hT : T = fun k' => 1 + (r0.fdiv (4 ^ k'.toNat)).fmod 4)
    (hL : L = fun k' => (if k' = 0 then 3 else if k' = 1 then 4 else if k' = 2 then 12 else 84) * (1 - 2 * (r1.fdiv (2 ^ k'.toNat)).fmod 2))
    (hP : P = fun k' => L (0 + k') * T (0 + k')) (hB : B = fun k' => (L (0 + k') * 12).fdiv (T (0 + k'))) : LNS (m - 0).toNat far T P B := by
  have tb : ∀ k, 1 ≤ T k ∧ T k ≤ 4 := fun k => by rw [hT]; exact tim_b _
  have e : ∀ i : Nat, (0 + (i : Int)) = i := fun i => Int.zero_add _
  refine ⟨fun i => L i, ⟨far_of h2 h4 hf, fun i _ => tb i, ?_, ?_, fun _ => ?_, fun _ => ?_, fun i _ => ?_⟩, fun i _ => ?_⟩
  · rw [hL]; exact leg_pm
  · rw [hL]; exact leg_pm
  · rw [hL]; exact leg_pm
  · rw [hL]; exact leg_pm
  · rw [hB]; simp only [e]; exact best_ex (tb i)
  · rw [hP]; simp only [e]
theorem line_l {n : Nat} {far : Int} {l t b : Nat → Int} (H : Line n far l t b) {i : Nat} (hi : i < n) : -84 ≤ l i ∧ l i ≤ 84 := by
  have hn : n ≤ 4 := by rcases H.hm with ⟨rfl, _⟩ | ⟨rfl, _⟩ | ⟨rfl, _⟩ <;> decide
  have h' : i = 0 ∨ i = 1 ∨ i = 2 ∨ i = 3 := by omega
  rcases h' with rfl | rfl | rfl | rfl
  · rcases H.l0 with h | h <;> omega
  · rcases H.l1 with h | h <;> omega
  · rcases H.l2 (by omega) with h | h <;> omega
  · rcases H.l3 (by omega) with h | h <;> omega
theorem line_n {n : Nat} {far : Int} {l t b : Nat → Int} (H : Line n far l t b) : 2 ≤ n ∧ n ≤ 4 ∧ 5 ≤ far ∧ far ≤ 85 := by
  rcases H.hm with ⟨rfl, h⟩ | ⟨rfl, h⟩ | ⟨rfl, h⟩ <;> omega
variable {n : Nat} {far : Int} {T P B : Int → Int}
theorem LNS.pb (H : LNS n far T P B) {i : Nat} (hi : i < n) : (P i).natAbs ≤ 336 := by
  obtain ⟨l, hl, hP⟩ := H.ln
  rw [hP i hi]
  have h1 := line_l hl hi
  have h2 := hl.ht i hi
  exact ab_le (a := l i) (b := T i) (A := 84) (B := 4) (by omega) (by have := hl.ht i hi; omega)
theorem LNS.tb (H : LNS n far T P B) {i : Nat} (hi : i < n) : 1 ≤ T i ∧ T i ≤ 4 := by
  obtain ⟨l, hl, hP⟩ := H.ln
  exact hl.ht i hi
theorem LNS.nb (H : LNS n far T P B) : 2 ≤ n ∧ n ≤ 4 ∧ 5 ≤ far ∧ far ≤ 85 := by
  obtain ⟨l, hl, hP⟩ := H.ln
  exact line_n hl
theorem LNS.bb (H : LNS n far T P B) {i : Nat} (hi : i < n) : (B i).natAbs ≤ 1008 := by
  obtain ⟨l, hl, hP⟩ := H.ln
  have h1 := line_l hl hi
  have h2 := hl.ht i hi
  have h3 := hl.hb i hi

  have h' : T i = 1 ∨ T i = 2 ∨ T i = 3 ∨ T i = 4 := by omega
  rcases h' with h | h | h | h <;> rw [h] at h3 <;> omega
theorem of_ix {k : Int} (h0 : 0 ≤ k) (h1 : k < 0 + (n : Int)) : ∃ i : Nat, k = i ∧ i < n := ⟨k.toNat, by omega, by omega⟩
theorem lt1023 {x : Int} (h : x.natAbs < 2 ^ 62) : x.natAbs < 2 ^ 1023 := Nat.lt_trans h (by decide +kernel)
/-- what the readings' elements ask -/
structure ElF (n : Nat) (P T : Int → Int) (far : Int) (un : UInt64) : Prop where
  p : ∀ k : Int, 0 ≤ k → k < 0 + (n : Int) → (P (0 + k)).natAbs < 2 ^ 1023
  t : ∀ k : Int, 0 ≤ k → k < 0 + (n : Int) → Builtin.Int.intBits (T (0 + k)) ≤ 64
  tf : ∀ k : Int, 0 ≤ k → k < 0 + (n : Int) → (T (0 + k) * far).natAbs < 2 ^ 1023
  nn : ∀ k : Int, 0 ≤ k → k < 0 + (n : Int) → NN (Float64.mul (Float64.ofInt (T (0 + k) * far)) un)
theorem LNS.tf (H : LNS n far T P B) {i : Nat} (hi : i < n) : 0 ≤ T i * far ∧ T i * far ≤ 340 := by
  have h1 := H.tb hi
  have h2 := H.nb
  have h' : T i = 1 ∨ T i = 2 ∨ T i = 3 ∨ T i = 4 := by omega
  rcases h' with h | h | h | h <;> rw [h] <;> omega
theorem tfu {a u : Int} (h : 0 ≤ a ∧ a ≤ 340) (hu : 1 ≤ u ∧ u ≤ 5) : 0 ≤ a * u ∧ a * u ≤ 1700 := by
  have h' : u = 1 ∨ u = 2 ∨ u = 3 ∨ u = 4 ∨ u = 5 := by omega
  rcases h' with rfl | rfl | rfl | rfl | rfl <;> omega
theorem LNS.sg (H : LNS n far T P B) {un : UInt64} {u : Int} (hu : 1 ≤ u ∧ u ≤ 5) (hun : Dy un u 1071) {i : Nat} (hi : i < n) : Dy (Float64.mul (Float64.ofInt (T i * far)) un) (T i * far * u) 1071 := by
  have h1 := H.tf hi
  have h2 := tfu h1 hu
  exact dy_mul (dy_ofInt (by omega)) hun (by omega) rfl (by decide)
theorem elf_mk (H : LNS n far T P B) {un : UInt64} {u : Int} (hu : 1 ≤ u ∧ u ≤ 5) (hun : Dy un u 1071) : ElF n P T far un := by
  refine ⟨fun k h0 h1 => ?_, fun k h0 h1 => ?_, fun k h0 h1 => ?_, fun k h0 h1 => ?_⟩ <;> obtain ⟨i, rfl, hi⟩ := of_ix h0 h1 <;> rw [Int.zero_add]
  · have := H.pb hi
    exact lt1023 (by omega)
  · have := H.tb hi
    exact intBits_le_64 (by omega) (by omega)
  · have := H.tf hi
    exact lt1023 (by omega)
  · exact nn_fv (H.sg hu hun hi) (Int.mul_nonneg (tfu (H.tf hi) hu).1 (Int.le_of_lt (pow_pos_int _)))
structure Hd (p : Prop) : Prop where
  out : p
theorem dy_unit {x : UInt64} {r : Int} (h : Dy x (1 + r.fmod 5) 1071) : ∃ u : Int, (1 ≤ u ∧ u ≤ 5) ∧ Hd (Dy x u 1071) := by
  have h1 := Int.fmod_nonneg_of_pos r (b := 5) (by decide)
  have h2 := Int.fmod_lt_of_pos r (b := 5) (by decide)
  exact ⟨_, by omega, ⟨h⟩⟩
abbrev dyx {x : UInt64} {n : Int} {k : Nat} (_ : Dy x n k) : UInt64 := x
abbrev hidl {a b : Int} (_ : Flt.Hid (a = b)) : Int := a
theorem fun_of {ys : List Value} {ks : List Int} {f : Int → Int} (h : IntsAre ys (List.map f ks)) : ∃ T : Int → Int, Flt.Hid (T = f) ∧ IntsAre ys (List.map T ks) := ⟨f, ⟨rfl⟩, h⟩
def IAF (ys : List Value) (T : Int → Int) (n : Nat) : Prop := IntsAre ys (List.map T (rangeKs 0 n))
end Mine

end W2F
section LP2
open PySem PySem.W PySem.Calls PyProof.Rows PySem.Spec
set_option Elab.async false
set_option linter.unusedVariables false
namespace Mine
section
variable {prog : Program} {w : World} {A : Around} {E : Value → Shared → Prop} {s : Shared} {env : Env} {h₀ : Heap} {target : Expr} {body : List Stmt} {Q : Flow → Shared → Prop}
/-- for TARGET in a list of the ledger, by an invariant over names and ledger -/
theorem list_inv2 {ax : Addr} {lo : Obj} {vs : List Value} {k : Nat} {m₀ : Str → Option Value} {news : List (Addr × Obj)} (J : Nat → (Str → Option Value) → List (Addr × Obj) → Prop)
    (hh : A.handled = none) (F : Fr h₀ env.locals s.heap m₀) (N : News h₀ env.locals s.heap news) (hm : (ax, lo) ∈ news) (hc : lo.cls = .type "list") (hd : lo.data = .seq vs.toArray k)
    (hj : J 0 m₀ news) (hJ : ∀ i m nx, J i m nx → (ax, lo) ∈ nx)
    (turn : ∀ i v m₁ news₁ h tk I oI, vs[i]? = some v → J i m₁ news₁ → Fr h₀ env.locals h m₁ → News h₀ env.locals h ((I, oI) :: news₁) → (∀ p ∈ news₁, p.1 ≠ I) → oI.cls = .type "list_iterator" →
      wpAny (model prog w) A (assign target env v) (fun _ s₂ => wpAny (model prog w) A (execs body env) (TPost h₀ env.locals (J (i + 1)) I oI { s with heap := h, toks := tk } Q) E s₂) E { s with heap := h, toks := tk })
    (done : ∀ m₁ news₁ h tk, J vs.length m₁ news₁ → Fr h₀ env.locals h m₁ → News h₀ env.locals h news₁ → Q .next { s with heap := h, toks := tk }) :
    wpAny (model prog w) A (pyIter (.ref ax)) (fun it s₂ => TurnsAt prog w A h₀ env target body Q E it s₂) E s := by
  have hax := N _ hm
  have hl : s.heap.IsList ax vs.toArray := ⟨lo, hax.1, hc, k, hd⟩
  have hlt : ax < s.heap.objs.size := Heap.lt_size hax.1
  have hne : ax ≠ s.heap.objs.size := Nat.ne_of_lt hlt
  refine wpAny_pyIter_list hl ?_
  have W := KTurns.ofWalks (target := target) (Walks.list (prog := prog) (w := w) hh s.heap.objs.size ax hne vs.toArray) fun i v s Q E st q => letGo_listiter st.1 q
  have hnew := next_is_new F
  have hlen : vs.toArray.size = vs.length := List.size_toArray
  rw [hlen] at W
  refine ⟨s.heap.objs.size, _, _, vs.length, _, _, _, m₀, news, J, rfl, W, ?_, ?_, ?_, ⟨⟨_, Heap.get?_push_size _ rfl, rfl, rfl⟩, hl.at fun o e => Heap.get?_push_of_some _ e⟩, F.push _, (fun p hp => ⟨Heap.get?_push_of_some _ (N p hp).1, (N p hp).2⟩), hj, ?_, ?_⟩
  · intro hI
    rcases List.mem_cons.mp hI with e | hI
    · exact absurd F.ns.lt (e ▸ Nat.lt_irrefl _)
    · exact hax.2.1 (List.mem_singleton.mp hI).symm
  · intro b hb
    rw [List.mem_singleton.mp hb]
    exact hnew
  · intro p hp hI
    exact absurd (Heap.lt_size (N p hp).1) ((List.mem_singleton.mp hI) ▸ Nat.lt_irrefl _)
  · rintro i v m₁ news₁ h₁ tk₁ own hin hP hJ₁ hoff hown hget hall hst F₁ N₁
    obtain ⟨⟨oI, hoI, hcI, _⟩, hls⟩ := hst
    have hmem := hall s.heap.objs.size (by simp) hnew oI hoI
    have hv : vs[i]? = some v := by
      have hP' : vs.toArray[i]? = some v := hP
      simpa using hP'
    have hoff' : ∀ p ∈ news₁, p.1 ≠ s.heap.objs.size := fun p hp e => hoff p hp (by rw [e]; exact List.mem_singleton.mpr rfl)
    have N₂ : News h₀ env.locals h₁ ((s.heap.objs.size, oI) :: news₁) := fun p hp => by
      rcases List.mem_cons.mp hp with rfl | hp
      · exact N₁ _ (List.mem_append_left _ hmem)
      · exact N₁ _ (List.mem_append_right _ hp)
    refine wpAny_mono (turn i v m₁ news₁ h₁ tk₁ _ oI hv hJ₁ F₁ N₂ hoff' hcI) (fun _ s₂ h₂ => wpAny_mono h₂ (fun f s₃ p => ?_) fun _ _ e => e) fun _ _ e => e
    have fin : TEnd h₀ env.locals (J (i + 1)) s.heap.objs.size oI { s with heap := h₁, toks := tk₁ } s₃ → LoopStepU h₀ env.locals [s.heap.objs.size] own (J (i + 1)) { s with heap := h₁, toks := tk₁ } .next s₃ := by
      rintro ⟨h', tk, m', news', nx, e, F', N', hI, hn, ho, hj'⟩
      refine ⟨rfl, h', tk, m', nx, e, F', ?_, fun p hp hq => ho p hp (List.mem_singleton.mp hq), hj'⟩
      intro p hp
      rcases List.mem_append.mp hp with hp | hp
      · have h2 := hget p hp
        have h3 := hown p hp
        rcases List.mem_cons.mp h3 with h4 | h4
        · have : p = (s.heap.objs.size, oI) := by rw [h4, hoI] at h2; exact Prod.ext h4 (Option.some.inj h2).symm
          rw [this]; exact N' _ hI
        · have h5 := List.mem_singleton.mp h4
          have h6 := (N₁ _ (List.mem_append_right _ (hJ _ _ _ hJ₁))).1
          have : p = (ax, lo) := by
            rw [h5] at h2
            dsimp only at h6
            rw [h6] at h2
            exact Prod.ext h5 (Option.some.inj h2).symm
          rw [this]; exact N' _ (hn _ (hJ _ _ _ hj'))
      · exact N' p (hn p hp)
    cases f with
    | ret v => exact .ret p
    | brk => exact .brk p
    | next => exact .next (fin p)
    | cont => exact .cont (fin p)
  · intro h' tk m' news' F' N' _ hJ'
    exact done m' news' h' tk hJ' F' N'

/-- for NAME in a range, by an invariant over names and ledger -/
theorem range_inv2 {xn : Str} {px : Pos} {r : Addr} {a₀ b₀ : Int} {t₀ u₀ v₀ : Tok} {n : Nat} {m₀ : Str → Option Value} {news : List (Addr × Obj)} (J : Nat → (Str → Option Value) → List (Addr × Obj) → Prop)
    (hh : A.handled = none) (hr : IsRange s.heap r a₀ b₀ 1 t₀ u₀ v₀) (hsmall : Builtin.Range.small a₀ b₀ 1 = true) (hn : Builtin.Range.rangeSize a₀ b₀ 1 = (n : Int)) (F : Fr h₀ env.locals s.heap m₀) (N : News h₀ env.locals s.heap news)
    (hj : J 0 m₀ news)
    (turn : ∀ (i : Nat) t m₁ news₁ h tk I oI, i < n → J i m₁ news₁ → Fr h₀ env.locals h m₁ → News h₀ env.locals h ((I, oI) :: news₁) → (∀ p ∈ news₁, p.1 ≠ I) → oI.cls = .type "range_iterator" →
      wpAny (model prog w) A (assign (.Name xn px) env (.int (a₀ + (i : Int)) t)) (fun _ s₂ => wpAny (model prog w) A (execs body env) (TPost h₀ env.locals (J (i + 1)) I oI { s with heap := h, toks := tk } Q) E s₂) E { s with heap := h, toks := tk })
    (done : ∀ m₁ news₁ h tk, J n m₁ news₁ → Fr h₀ env.locals h m₁ → News h₀ env.locals h news₁ → Q .next { s with heap := h, toks := tk }) :
    wpAny (model prog w) A (pyIter (.ref r)) (fun it s₂ => TurnsAt prog w A h₀ env (.Name xn px) body Q E it s₂) E s := by
  refine wpAny_pyIter_range hr hsmall ?_
  have hnew := next_is_new F
  have W₀ : Walks prog w A s.heap.objs.size [s.heap.objs.size] [s.heap.objs.size] n (fun i v => i < n ∧ ∃ t, v = .int (a₀ + i * 1) t)
      (fun i h => IsRangeIter h s.heap.objs.size (a₀ + (i : Nat) * 1) ((n : Int) - (i : Nat)) 1) := (Walks.range hh _ a₀ 1 n).bound
  have W := KTurns.ofWalks (target := .Name xn px) W₀ fun i v s Q E st q => (by
    show wpAny _ _ (letOwnedTupleGo (.Name xn px) (.ref _) v) _ _ _
    exact wpAny_pure q)
  refine ⟨s.heap.objs.size, _, _, n, _, _, _, m₀, news, J, rfl, W, ?_, ?_, ?_, (by show IsRangeIter _ _ _ _ _; rw [hn]; simpa using Heap.get?_push_size _ rfl), F.push _, (fun p hp => ⟨Heap.get?_push_of_some _ (N p hp).1, (N p hp).2⟩), hj, ?_, ?_⟩
  · intro hI
    exact absurd F.ns.lt ((List.mem_singleton.mp hI) ▸ Nat.lt_irrefl _)
  · intro b hb
    rw [List.mem_singleton.mp hb]
    exact hnew
  · intro p hp hI
    exact absurd (Heap.lt_size (N p hp).1) ((List.mem_singleton.mp hI) ▸ Nat.lt_irrefl _)
  · rintro i v m₁ news₁ h₁ tk₁ own hin ⟨_, t, rfl⟩ hJ₁ hoff hown hget hall hst F₁ N₁
    obtain ⟨oI, hoI, hcI⟩ : ∃ oI, h₁.get? s.heap.objs.size = some oI ∧ oI.cls = .type "range_iterator" := ⟨_, hst, rfl⟩
    have hmem := hall s.heap.objs.size (by simp) hnew oI hoI
    have hoff' : ∀ p ∈ news₁, p.1 ≠ s.heap.objs.size := fun p hp e => hoff p hp (by rw [e]; exact List.mem_singleton.mpr rfl)
    have N₂ : News h₀ env.locals h₁ ((s.heap.objs.size, oI) :: news₁) := fun p hp => by
      rcases List.mem_cons.mp hp with rfl | hp
      · exact N₁ _ (List.mem_append_left _ hmem)
      · exact N₁ _ (List.mem_append_right _ hp)
    have e1 : a₀ + (i : Int) * 1 = a₀ + (i : Int) := by omega
    rw [e1]
    refine wpAny_mono (turn i t m₁ news₁ h₁ tk₁ _ oI hin hJ₁ F₁ N₂ hoff' hcI) (fun _ s₂ h₂ => wpAny_mono h₂ (fun f s₃ p => ?_) fun _ _ e => e) fun _ _ e => e
    have fin : TEnd h₀ env.locals (J (i + 1)) s.heap.objs.size oI { s with heap := h₁, toks := tk₁ } s₃ → LoopStepU h₀ env.locals [s.heap.objs.size] own (J (i + 1)) { s with heap := h₁, toks := tk₁ } .next s₃ := by
      rintro ⟨h', tk, m', news', nx, e, F', N', hI, hn, ho, hj'⟩
      refine ⟨rfl, h', tk, m', nx, e, F', ?_, fun p hp hq => ho p hp (List.mem_singleton.mp hq), hj'⟩
      intro p hp
      rcases List.mem_append.mp hp with hp | hp
      · have h2 := hget p hp
        have h4 := List.mem_singleton.mp (hown p hp)
        have : p = (s.heap.objs.size, oI) := by rw [h4, hoI] at h2; exact Prod.ext h4 (Option.some.inj h2).symm
        rw [this]; exact N' _ hI
      · exact N' p (hn p hp)
    cases f with
    | ret v => exact .ret p
    | brk => exact .brk p
    | next => exact .next (fin p)
    | cont => exact .cont (fin p)
  · intro h' tk m' news' F' N' _ hJ'
    exact done m' news' h' tk hJ' F' N'

end
/-- two entries of a ledger at one address are one object -/
theorem news_eq {h₀ h : Heap} {L a : Addr} {o1 o2 : Obj} {news : List (Addr × Obj)} (N : News h₀ L h news) (h1 : (a, o1) ∈ news) (h2 : (a, o2) ∈ news) : o1 = o2 := by
  have e1 := (N _ h1).1
  have e2 := (N _ h2).1
  rw [e1] at e2
  exact Option.some.inj e2
theorem news_ne {h₀ h : Heap} {L a b : Addr} {o1 o2 : Obj} {news : List (Addr × Obj)} (N : News h₀ L h news) (h1 : (a, o1) ∈ news) (h2 : (b, o2) ∈ news) (hc : o1.cls ≠ o2.cls) : a ≠ b := by
  rintro rfl
  exact hc (by rw [news_eq N h1 h2])
end Mine

end LP2
section W2G
open PySem PySem.W PySem.Calls PyProof.Rows PySem.Spec
set_option linter.unusedVariables false
set_option Elab.async false
namespace Mine
theorem news_app {h₀ h : Heap} {L : Addr} {l1 l2 : List (Addr × Obj)} (N1 : News h₀ L h l1) (N2 : News h₀ L h l2) : News h₀ L h (l1 ++ l2) := fun p hp => by
  rcases List.mem_append.mp hp with h | h
  · exact N1 p h
  · exact N2 p h
def isCell (o : Obj) : Bool := match o.data with | .cell _ => true | _ => false
/-- what of a ledger stands behind a store to the cell c -/
inductive Keep (c : Addr) : List (Addr × Obj) → List (Addr × Obj) → Prop
  | nil : Keep c [] []
  | obj {p : Addr × Obj} {r k : List (Addr × Obj)} : isCell p.2 = false → Keep c r k → Keep c (p :: r) (p :: k)
  | cell {p : Addr × Obj} {r k : List (Addr × Obj)} : p.1 ≠ c → Keep c r k → Keep c (p :: r) (p :: k)
  | drop {p : Addr × Obj} {r k : List (Addr × Obj)} : Keep c r k → Keep c (p :: r) k
theorem Keep.sub {c : Addr} {l k : List (Addr × Obj)} (H : Keep c l k) : ∀ p ∈ k, p ∈ l ∧ (p.1 ≠ c ∨ isCell p.2 = false) := by
  induction H with
  | nil => intro p hp; cases hp
  | obj h _ ih =>
    intro p hp
    rcases List.mem_cons.mp hp with rfl | hp
    · exact ⟨.head _, .inr h⟩
    · exact ⟨.tail _ (ih p hp).1, (ih p hp).2⟩
  | cell h _ ih =>
    intro p hp
    rcases List.mem_cons.mp hp with rfl | hp
    · exact ⟨.head _, .inl h⟩
    · exact ⟨.tail _ (ih p hp).1, (ih p hp).2⟩
  | drop _ ih => exact fun p hp => ⟨.tail _ (ih p hp).1, (ih p hp).2⟩
theorem storeK_C {M : Model} {A : Around} {E : Value → Shared → Prop} {s : Shared} {h₀ : Heap} {L a : Addr} {m : Str → Option Value} {cn : Str} {cs : Scope} {ccd : Value} {cl : List (Str × Addr)} {x : Str} {v : Value} {Q : Unit → Shared → Prop} {news keep : List (Addr × Obj)} {c : Addr} {o : Obj} {v₀ : Option Value}
    (F : Fr h₀ L s.heap m) (N : News h₀ L s.heap news) (hc : cl.lookup x = some c) (hm : (c, o) ∈ news) (hd : o.data = .cell v₀) (hkp : Keep c news keep)
    (h : ∀ h' o', Fr h₀ L h' m → News h₀ L h' ((c, o') :: keep) → o'.data = .cell (some v) → Q () { s with heap := h' })
    (hk : cs.kind = .function := by rfl) (hx : (envX cn cs L a ccd cl).kindOf x = some .cell := by rfl) : wpAny M A (storeName (envX cn cs L a ccd cl) x v) Q E s := by
  have hmem := N _ hm
  refine wpAny_storeName_cell hk hx hc ⟨o, hmem.1, hd⟩ fun h' hv hs => ?_
  obtain ⟨o', ho', hd'⟩ := hv
  refine h h' o' ⟨F.ns.sameBut hs (Ne.symm hmem.2.1), fun b ob e => (hs.2 b (fun q => ?_)).trans (F.keep b ob e), F.above⟩ ?_ hd'
  · rw [q, hmem.2.2] at e; cases e
  · intro p hp
    rcases List.mem_cons.mp hp with rfl | hp
    · exact ⟨ho', hmem.2⟩
    · obtain ⟨h1, h2⟩ := hkp.sub p hp
      have hne : p.1 ≠ c := by
        rcases h2 with h2 | h2
        · exact h2
        · intro e
          have e1 := (N _ h1).1
          rw [e, hmem.1] at e1
          have e2 := Option.some.inj e1
          rw [← e2] at h2
          unfold isCell at h2
          dsimp only at h2
          rw [hd] at h2
          cases h2
      exact ⟨(hs.2 p.1 hne).trans (N p h1).1, (N p h1).2⟩
theorem newList_q {M : Model} {A : Around} {E : Value → Shared → Prop} {s : Shared} {h₀ : Heap} {L : Addr} {m : Str → Option Value} {news : List (Addr × Obj)} {vs : List Value} {Q : Value → Shared → Prop} (F : Fr h₀ L s.heap m) (N : News h₀ L s.heap news) (hz : vs.length ≤ sizeLine)
    (h : ∀ l h', Fr h₀ L h' m → News h₀ L h' ((l, W.listOf vs.toArray 0) :: news) → Q (.ref l) { s with heap := h' }) : wpAny M A (newList vs) Q E s := newList_K F N (fun l h' F' N' _ => h l h' F' N') hz
theorem newTuple_q {M : Model} {A : Around} {E : Value → Shared → Prop} {s : Shared} {h₀ : Heap} {L : Addr} {m : Str → Option Value} {news : List (Addr × Obj)} {vs : List Value} {Q : Value → Shared → Prop} (F : Fr h₀ L s.heap m) (N : News h₀ L s.heap news) (hz : vs.length ≤ sizeLine)
    (h : ∀ l h', Fr h₀ L h' m → News h₀ L h' ((l, ({ cls := .type "tuple", data := .seq vs.toArray } : Obj)) :: news) → Q (.ref l) { s with heap := h' }) : wpAny M A (newTuple vs) Q E s := kup_newTuple F N (fun l h' F' N' _ => h l h' F' N') hz
theorem ne_add {C k : Nat} : C ≠ C + (k + 1) := by omega
theorem ne_add' {C k : Nat} : C + (k + 1) ≠ C := by omega
theorem succ_ne {a b : Nat} (h : a ≠ b) : a + 1 ≠ b + 1 := fun e => h (Nat.succ.inj e)
structure RDS (rs : List Rd) (n : Nat) (sl un : UInt64) (far : Int) (T P : Int → Int) : Prop where
  len : rs.length = n
  at' : ∀ (i : Nat) (r : Rd), rs[i]? = some r → r.mu = Float64.mul sl (Float64.ofInt (P i)) ∧ r.sg = Float64.mul (Float64.ofInt (T i * far)) un
theorem rds_mk {rs : List Rd} {n : Nat} {sl un : UInt64} {far : Int} {T P : Int → Int} (h : rs.length = n) (h' : ∀ (i : Nat) (r : Rd), rs[i]? = some r → r.mu = Float64.mul sl (Float64.ofInt (P (0 + (0 + (i : Int))))) ∧ r.sg = Float64.mul (Float64.ofInt (T (0 + (0 + (i : Int))) * far)) un) : RDS rs n sl un far T P :=
  ⟨h, fun i r hr => by have := h' i r hr; simpa only [Int.zero_add] using this⟩
structure PD4 (rs : List Rd) (r0 r1 r2 r3 : Rd) : Prop where
  all : ∀ r ∈ rs, r = r0 ∨ r = r1 ∨ r = r2 ∨ r = r3
structure UB (u : Int) : Prop where
  b : 1 ≤ u ∧ u ≤ 5
structure SLB (v : Int) : Prop where
  lo : -1048576 < v
  hi : v < 1048576
theorem slb_of {x : UInt64} {v : Int} {k : Nat} (_ : Dy x v k) (h1 : -1048576 < v) (h2 : v < 1048576) : SLB v := ⟨h1, h2⟩
theorem ints_mem {vs : List Value} {ns : List Int} (h : IntsAre vs ns) {v : Value} (hv : v ∈ vs) : ∃ n t, v = .int n t := by
  obtain ⟨i, hi⟩ := List.getElem?_of_mem hv
  obtain ⟨k, t, e, hk⟩ := IntsAre.at h i v hi
  exact ⟨k, t, by first | exact hk | exact e⟩
def RowQ (R : Addr) (fixed : List (Addr × Obj)) (c1 c2 c3 : Addr) (m : Str → Option Value) (nx : List (Addr × Obj)) : Prop :=
  ∃ (u : Str → Option Value) (o1 o2 o3 : Obj) (v1 v2 v3 : Option Value), m = (fun y => if y = Str.ofString "readings" then some (.ref R) else u y) ∧ nx = (c1, o1) :: (c2, o2) :: (c3, o3) :: fixed ∧ o1.data = .cell v1 ∧ o2.data = .cell v2 ∧ o3.data = .cell v3
def InQ (R : Addr) (fixed : List (Addr × Obj)) (c3 : Addr) (m : Str → Option Value) (nx : List (Addr × Obj)) : Prop :=
  ∃ (u : Str → Option Value) (o3 : Obj) (v3 : Option Value), m = (fun y => if y = Str.ofString "readings" then some (.ref R) else u y) ∧ nx = (c3, o3) :: fixed ∧ o3.data = .cell v3
theorem mR_of {R : Addr} {m : Str → Option Value} (h : m (Str.ofString "readings") = some (.ref R)) : m = (fun y => if y = Str.ofString "readings" then some (.ref R) else m y) := by
  funext y
  by_cases a : y = Str.ofString "readings"
  · rw [if_pos a, a, h]
  · rw [if_neg a]
section
variable {prog : Program} {w : World} {A : Around} {E : Value → Shared → Prop} {s : Shared} {env : Env} {h₀ : Heap} {target : Expr} {body : List Stmt} {Q : Flow → Shared → Prop}
theorem row_loop {ax R c1 c2 c3 : Addr} {lo o1 o2 o3 : Obj} {vs : List Value} {k : Nat} {m₀ : Str → Option Value} {fixed : List (Addr × Obj)} {v1 v2 v3 : Option Value}
    (hh : A.handled = none) (F : Fr h₀ env.locals s.heap m₀) (N : News h₀ env.locals s.heap ((c1, o1) :: (c2, o2) :: (c3, o3) :: fixed)) (hm : (ax, lo) ∈ fixed) (hc : lo.cls = .type "list") (hd : lo.data = .seq vs.toArray k)
    (hR : m₀ (Str.ofString "readings") = some (.ref R)) (d1 : o1.data = .cell v1) (d2 : o2.data = .cell v2) (d3 : o3.data = .cell v3)
    (turn : ∀ v (u : Str → Option Value) o1 o2 o3 v1 v2 v3 h tk I oI, v ∈ vs → o1.data = .cell v1 → o2.data = .cell v2 → o3.data = .cell v3 → I ≠ c1 → I ≠ c2 → I ≠ c3 → Fr h₀ env.locals h (fun y => if y = Str.ofString "readings" then some (.ref R) else u y) →
      News h₀ env.locals h ((I, oI) :: (c1, o1) :: (c2, o2) :: (c3, o3) :: fixed) → (∀ p ∈ fixed, p.1 ≠ I) →
      wpAny (model prog w) A (assign target env v) (fun _ s₂ => wpAny (model prog w) A (execs body env) (TPost h₀ env.locals (RowQ R fixed c1 c2 c3) I oI { s with heap := h, toks := tk } Q) E s₂) E { s with heap := h, toks := tk })
    (done : ∀ (u : Str → Option Value) h tk, Fr h₀ env.locals h u → News h₀ env.locals h fixed → Q .next { s with heap := h, toks := tk }) :
    wpAny (model prog w) A (pyIter (.ref ax)) (fun it s₂ => TurnsAt prog w A h₀ env target body Q E it s₂) E s := by
  refine list_inv2 (fun _ => RowQ R fixed c1 c2 c3) hh F N (.tail _ (.tail _ (.tail _ hm))) hc hd ⟨m₀, o1, o2, o3, v1, v2, v3, mR_of hR, rfl, d1, d2, d3⟩ (fun _ _ _ h => ?_) ?_ ?_
  · obtain ⟨u, o1, o2, o3, v1, v2, v3, rfl, rfl, _⟩ := h
    exact .tail _ (.tail _ (.tail _ hm))
  · rintro i v m₁ news₁ h tk I oI hv ⟨u, o1, o2, o3, v1, v2, v3, rfl, rfl, d1, d2, d3⟩ F₁ N₁ ho _
    exact turn v u o1 o2 o3 v1 v2 v3 h tk I oI (List.mem_of_getElem? hv) d1 d2 d3 (Ne.symm (ho _ (.head _))) (Ne.symm (ho _ (.tail _ (.head _)))) (Ne.symm (ho _ (.tail _ (.tail _ (.head _))))) F₁ N₁ fun p hp => ho p (.tail _ (.tail _ (.tail _ hp)))
  · rintro m₁ news₁ h tk ⟨u, o1, o2, o3, v1, v2, v3, rfl, rfl, d1, d2, d3⟩ F₁ N₁
    exact done _ h tk F₁ fun p hp => N₁ p (.tail _ (.tail _ (.tail _ hp)))
theorem in_loop {ax R c3 : Addr} {lo o3 : Obj} {vs : List Value} {k : Nat} {m₀ : Str → Option Value} {fixed : List (Addr × Obj)} {v3 : Option Value}
    (hh : A.handled = none) (F : Fr h₀ env.locals s.heap m₀) (N : News h₀ env.locals s.heap ((c3, o3) :: fixed)) (hm : (ax, lo) ∈ fixed) (hc : lo.cls = .type "list") (hd : lo.data = .seq vs.toArray k)
    (hR : m₀ (Str.ofString "readings") = some (.ref R)) (d3 : o3.data = .cell v3)
    (turn : ∀ v (u : Str → Option Value) o3 v3 h tk I oI, v ∈ vs → o3.data = .cell v3 → I ≠ c3 → Fr h₀ env.locals h (fun y => if y = Str.ofString "readings" then some (.ref R) else u y) →
      News h₀ env.locals h ((I, oI) :: (c3, o3) :: fixed) → (∀ p ∈ fixed, p.1 ≠ I) →
      wpAny (model prog w) A (assign target env v) (fun _ s₂ => wpAny (model prog w) A (execs body env) (TPost h₀ env.locals (InQ R fixed c3) I oI { s with heap := h, toks := tk } Q) E s₂) E { s with heap := h, toks := tk })
    (done : ∀ (u : Str → Option Value) o3 v3 h tk, o3.data = .cell v3 → Fr h₀ env.locals h (fun y => if y = Str.ofString "readings" then some (.ref R) else u y) → News h₀ env.locals h ((c3, o3) :: fixed) → Q .next { s with heap := h, toks := tk }) :
    wpAny (model prog w) A (pyIter (.ref ax)) (fun it s₂ => TurnsAt prog w A h₀ env target body Q E it s₂) E s := by
  refine list_inv2 (fun _ => InQ R fixed c3) hh F N (.tail _ hm) hc hd ⟨m₀, o3, v3, mR_of hR, rfl, d3⟩ (fun _ _ _ h => ?_) ?_ ?_
  · obtain ⟨u, o3, v3, rfl, rfl, _⟩ := h
    exact .tail _ hm
  · rintro i v m₁ news₁ h tk I oI hv ⟨u, o3, v3, rfl, rfl, d3⟩ F₁ N₁ ho _
    exact turn v u o3 v3 h tk I oI (List.mem_of_getElem? hv) d3 (Ne.symm (ho _ (.head _))) F₁ N₁ fun p hp => ho p (.tail _ hp)
  · rintro m₁ news₁ h tk ⟨u, o3, v3, rfl, rfl, d3⟩ F₁ N₁
    exact done _ o3 v3 h tk d3 F₁ N₁
end
theorem row_end {h₀ h' : Heap} {L I R c1 c2 c3 : Addr} {oI o1 o2 o3 : Obj} {s₁ : Shared} {tk : Nat} {m' : Str → Option Value} {fixed news : List (Addr × Obj)} {v1 v2 v3 : Option Value}
    (F : Fr h₀ L h' m') (N : News h₀ L h' news) (hI : (I, oI) ∈ news) (hR : m' (Str.ofString "readings") = some (.ref R)) (h1 : (c1, o1) ∈ news) (h2 : (c2, o2) ∈ news) (h3 : (c3, o3) ∈ news) (d1 : o1.data = .cell v1) (d2 : o2.data = .cell v2) (d3 : o3.data = .cell v3)
    (hs : ∀ p ∈ fixed, p ∈ news) (n1 : I ≠ c1) (n2 : I ≠ c2) (n3 : I ≠ c3) (off : ∀ p ∈ fixed, p.1 ≠ I) : TEnd h₀ L (RowQ R fixed c1 c2 c3) I oI s₁ { s₁ with heap := h', toks := tk } := by
  refine TEnd.intro F N hI ?_ ?_ ⟨m', o1, o2, o3, v1, v2, v3, mR_of hR, rfl, d1, d2, d3⟩
  · intro p hp
    simp only [List.mem_cons] at hp
    rcases hp with rfl | rfl | rfl | hp
    · exact h1
    · exact h2
    · exact h3
    · exact hs p hp
  · intro p hp
    simp only [List.mem_cons] at hp
    rcases hp with rfl | rfl | rfl | hp
    · exact Ne.symm n1
    · exact Ne.symm n2
    · exact Ne.symm n3
    · exact off p hp
theorem in_end {h₀ h' : Heap} {L I R c3 : Addr} {oI o3 : Obj} {s₁ : Shared} {tk : Nat} {m' : Str → Option Value} {fixed news : List (Addr × Obj)} {v3 : Option Value}
    (F : Fr h₀ L h' m') (N : News h₀ L h' news) (hI : (I, oI) ∈ news) (hR : m' (Str.ofString "readings") = some (.ref R)) (h3 : (c3, o3) ∈ news) (d3 : o3.data = .cell v3)
    (hs : ∀ p ∈ fixed, p ∈ news) (n3 : I ≠ c3) (off : ∀ p ∈ fixed, p.1 ≠ I) : TEnd h₀ L (InQ R fixed c3) I oI s₁ { s₁ with heap := h', toks := tk } := by
  refine TEnd.intro F N hI ?_ ?_ ⟨m', o3, v3, mR_of hR, rfl, d3⟩
  · intro p hp
    rcases List.mem_cons.mp hp with rfl | hp
    · exact h3
    · exact hs p hp
  · intro p hp
    rcases List.mem_cons.mp hp with rfl | hp
    · exact Ne.symm n3
    · exact off p hp
theorem pad4 {rs : List Rd} {n : Nat} (hl : rs.length = n) (h : 2 ≤ n ∧ n ≤ 4) : ∃ r0 r1 r2 r3 : Rd, (∀ r ∈ rs, r = r0 ∨ r = r1 ∨ r = r2 ∨ r = r3) ∧ r0 ∈ rs ∧ r1 ∈ rs ∧ r2 ∈ rs ∧ r3 ∈ rs := by
  subst hl
  match rs, h with
  | [a, b], _ => exact ⟨a, b, b, b, by simp, by simp, by simp, by simp, by simp⟩
  | [a, b, c], _ => exact ⟨a, b, c, c, by simp, by simp, by simp, by simp, by simp⟩
  | [a, b, c, d], _ => exact ⟨a, b, c, d, by simp, by simp, by simp, by simp, by simp⟩
  | [], h => exact absurd h.1 (by decide)
  | [a], h => exact absurd h.1 (by simp)
  | a :: b :: c :: d :: e :: r, h => exact absurd h.2 (by simp)
abbrev pads (r0 r1 r2 r3 : Rd) : List (Addr × Obj) := [(r0.x, ndO r0.dx (.float r0.mu r0.t1) (.float r0.sg r0.t2)), (r0.dx, dictOf [] 0), (r1.x, ndO r1.dx (.float r1.mu r1.t1) (.float r1.sg r1.t2)), (r1.dx, dictOf [] 0), (r2.x, ndO r2.dx (.float r2.mu r2.t1) (.float r2.sg r2.t2)), (r2.dx, dictOf [] 0), (r3.x, ndO r3.dx (.float r3.mu r3.t1) (.float r3.sg r3.t2)), (r3.dx, dictOf [] 0)]
theorem pads_news {h₀ h : Heap} {L : Addr} {l : List (Addr × Obj)} {rs : List Rd} {r0 r1 r2 r3 : Rd} (N : News h₀ L h (l ++ rled rs)) (a : r0 ∈ rs) (b : r1 ∈ rs) (c : r2 ∈ rs) (d : r3 ∈ rs) : News h₀ L h (pads r0 r1 r2 r3) := by
  intro p hp
  refine N p (List.mem_append_right _ ?_)
  simp only [pads, List.mem_cons, List.not_mem_nil, or_false] at hp
  rcases hp with rfl | rfl | rfl | rfl | rfl | rfl | rfl | rfl
  · exact (rled_mem a).1
  · exact (rled_mem a).2
  · exact (rled_mem b).1
  · exact (rled_mem b).2
  · exact (rled_mem c).1
  · exact (rled_mem c).2
  · exact (rled_mem d).1
  · exact (rled_mem d).2
theorem keepB_app (bs : List Bool) {l : List (Addr × Obj)} (t : List (Addr × Obj)) (h : bs.length = l.length) : keepB bs (l ++ t) = keepB bs l := by
  induction bs generalizing l with
  | nil => cases l with
    | nil => cases t <;> rfl
    | cons a r => cases h
  | cons b bs ih => cases l with
    | nil => cases h
    | cons a r => cases b <;> simp only [List.cons_append, keepB, ih (Nat.succ.inj h)]
end Mine
namespace Mine
/-- one of the three lists of weights -/
def WK (n : Nat) (B : Int → Int) (led : List (Addr × Obj)) (v : Value) : Prop := ∃ (W : Addr) (ws : List Value) (g : Int → Int), v = .ref W ∧ (W, PyProof.Rows.LCg.lst ws) ∈ led ∧ IntsAre ws (List.map g (rangeKs 0 n)) ∧ Kind n (fun i => B i) (fun i => g i)
theorem n7_b (r : Int) : -3 ≤ r.fmod 7 - 3 ∧ r.fmod 7 - 3 ≤ 3 := by
  have h1 := Int.fmod_nonneg_of_pos r (b := 7) (by decide)
  have h2 := Int.fmod_lt_of_pos r (b := 7) (by decide)
  omega
theorem n17_b (r : Int) : -8 ≤ r.fmod 17 - 8 ∧ r.fmod 17 - 8 ≤ 8 := by
  have h1 := Int.fmod_nonneg_of_pos r (b := 17) (by decide)
  have h2 := Int.fmod_lt_of_pos r (b := 17) (by decide)
  omega
variable {n : Nat} {B : Int → Int} {led : List (Addr × Obj)} {W : Addr} {ws : List Value} {r m : Int}
structure AL : Prop where
theorem n7_bits (r : Int) : Builtin.Int.intBits (r.fmod 7 - 3) ≤ 64 := by
  have := n7_b r
  exact intBits_le_64 (by omega) (by omega)
theorem along_ints (h : IntsAre ws (List.map (fun k' => (r.fmod 7 - 3) * k') (List.map B (rangeKs 0 n)))) : IntsAre ws (List.map (fun k => (r.fmod 7 - 3) * B k) (rangeKs 0 n)) := by
  rw [List.map_map] at h
  exact h
theorem wk_along (hm : (W, PyProof.Rows.LCg.lst ws) ∈ led) (h : IntsAre ws (List.map (fun k => (r.fmod 7 - 3) * B k) (rangeKs 0 n))) : WK n B led (.ref W) := by
  exact ⟨W, ws, _, rfl, hm, h, .inl ⟨_, n7_b r, fun i _ => rfl⟩⟩
theorem wk_moved (hm : (W, PyProof.Rows.LCg.lst ws) ∈ led) (h2 : 2 ≤ m) (h : IntsAre ws (List.map (fun k' => (r.fmod 7 - 3) * B (0 + k') + if (k' == (r.fdiv 7).fmod m) = true then 1 else 0) (rangeKs 0 (m - 0).toNat))) : WK (m - 0).toNat B led (.ref W) := by
  have hk1 := Int.fmod_nonneg_of_pos (r.fdiv 7) (b := m) (by omega)
  have hk2 := Int.fmod_lt_of_pos (r.fdiv 7) (b := m) (by omega)
  refine ⟨W, ws, _, rfl, hm, h, .inr (.inl ⟨r.fmod 7 - 3, ((r.fdiv 7).fmod m).toNat, n7_b r, by omega, fun i hi => ?_⟩)⟩
  dsimp only
  rw [Int.zero_add]
  congr 1
  have e : ((i : Int) == (r.fdiv 7).fmod m) = true ↔ i = ((r.fdiv 7).fmod m).toNat := by
    rw [beq_iff_eq]
    omega
  simp only [e]
theorem wk_drawn (hm : (W, PyProof.Rows.LCg.lst ws) ∈ led) (h : IntsAre ws (List.map (fun k' => (r.fdiv (17 ^ k'.toNat)).fmod 17 - 8) (rangeKs 0 n))) : WK n B led (.ref W) :=
  ⟨W, ws, _, rfl, hm, h, .inr (.inr fun i _ => n17_b _)⟩
theorem wk_go {h₀ h : Heap} {L : Addr} (N : News h₀ L h led) {v a b c : Value} (hv : v ∈ [a, b, c]) (h1 : WK n B led a) (h2 : WK n B led b) (h3 : WK n B led c) :
    ∃ (W : Addr) (ws : List Value) (g : Int → Int), v = .ref W ∧ News h₀ L h ((W, PyProof.Rows.LCg.lst ws) :: led) ∧ IntsAre ws (List.map g (rangeKs 0 n)) ∧ Kind n (fun i => B i) (fun i => g i) := by
  have : WK n B led v := by
    simp only [List.mem_cons, List.not_mem_nil, or_false] at hv
    rcases hv with rfl | rfl | rfl <;> assumption
  obtain ⟨W, ws, g, e, hm, hi, hk⟩ := this
  refine ⟨W, ws, g, e, fun p hp => ?_, hi, hk⟩
  rcases List.mem_cons.mp hp with rfl | hp
  · exact N _ hm
  · exact N p hp
end Mine

end W2G
section HW2
open PySem PySem.W PySem.Calls PyProof.Rows
set_option Elab.async false
set_option linter.unusedVariables false
namespace Mine
local macro_rules | `(tactic| walk_at $s:str) => `(tactic| k_extra $s)
structure Idx (i : Nat) (r : Rd) (rs : List Rd) (y : Int) (ys : List Int) : Prop where
  hr : rs[i]? = some r
  hy : ys[i]? = some y
  hi : i < 2 ^ 62
  hyb : y.natAbs < 2 ^ 63
  hny : (-y).natAbs < 2 ^ 63
theorem item_rd {prog : Program} {w : World} {A : Around} {E : Value → Shared → Prop} {s : Shared} {h₀ : Heap} {value slice : PySem.Expr} {L : Addr} {news : List (Addr × Obj)} {D : Addr} {rs : List Rd} {ys : List Int} {y : Int} {r : Rd} {i : Nat} {t : Tok} {Q : Value → Shared → Prop} (hx : Idx i r rs y ys) (N : News h₀ L s.heap news) (hm : (D, PyProof.Rows.LCg.lst (rs.map fun r => Value.ref r.x)) ∈ news)
    (h : Q (.ref r.x) s)
    (hs : subscripted slice false (.ref D) (.int (0 + (i : Int)) t) = operate [.ref D, .int (0 + (i : Int)) t] (getItem (.ref D) (.int (0 + (i : Int)) t)) := by with_unfolding_all rfl) :
    wpAny (model prog w) A (subscriptTail value slice (.ref D) (.int (0 + (i : Int)) t)) Q E s := by
  have hl : s.heap.IsList D (rs.map fun r => Value.ref r.x).toArray := ⟨_, (N _ hm).1, rfl, _, rfl⟩
  have h1 := hx.hi
  refine tail_any hl.typeIs slot_list_getitem.lookup (wpAny_getItem_list hl (by omega) (by omega) ?_ h) hs
  have e : (0 + (i : Int)).toNat = i := by omega
  rw [e]
  simp [hx.hr]
theorem item_iy {prog : Program} {w : World} {A : Around} {E : Value → Shared → Prop} {s : Shared} {h₀ : Heap} {value slice : PySem.Expr} {L : Addr} {news : List (Addr × Obj)} {D : Addr} {rs : List Rd} {ws : List Value} {ys : List Int} {y : Int} {r : Rd} {i : Nat} {t : Tok} {Q : Value → Shared → Prop} (hx : Idx i r rs y ys) (hI : IntsAre ws ys) (N : News h₀ L s.heap news) (hm : (D, PyProof.Rows.LCg.lst ws) ∈ news)
    (h : ∀ t', Q (.int y t') s)
    (hs : subscripted slice false (.ref D) (.int (0 + (i : Int)) t) = operate [.ref D, .int (0 + (i : Int)) t] (getItem (.ref D) (.int (0 + (i : Int)) t)) := by with_unfolding_all rfl) :
    wpAny (model prog w) A (subscriptTail value slice (.ref D) (.int (0 + (i : Int)) t)) Q E s := by
  have hl : s.heap.IsList D ws.toArray := ⟨_, (N _ hm).1, rfl, _, rfl⟩
  have h1 := hx.hi
  obtain ⟨t', hx'⟩ := hI.get i y hx.hy
  refine tail_any hl.typeIs slot_list_getitem.lookup (wpAny_getItem_list hl (by omega) (by omega) ?_ (h t')) hs
  have e : (0 + (i : Int)).toNat = i := by omega
  rw [e]
  simpa using hx'
theorem par0 {i : Nat} (h : (0 + (i : Int)).fmod 2 = 0) : i % 2 = 0 := by
  rw [Int.fmod_eq_emod_of_nonneg _ (by decide)] at h; omega
theorem par1 {i : Nat} (h : (0 + (i : Int)).fmod 2 ≠ 0) : i % 2 = 1 := by
  rw [Int.fmod_eq_emod_of_nonneg _ (by decide)] at h; omega
theorem len_rs {prog : Program} {w : World} {A : Around} {E : Value → Shared → Prop} {s : Shared} {h₀ : Heap} {L : Addr} {news : List (Addr × Obj)} {D : Addr} {rs : List Rd} {Q : Value → Shared → Prop} (N : News h₀ L s.heap news) (hm : (D, PyProof.Rows.LCg.lst (rs.map fun r => Value.ref r.x)) ∈ news) (h4 : rs.length ≤ 4)
    (h : Q (.int (rs.length : Int) (s.toks + 1)) { s with toks := s.toks + 1 + 1 }) : wpAny (model prog w) A (call (.builtin "len") [.ref D] []) Q E s := by
  have hl : s.heap.IsList D (rs.map fun r => Value.ref r.x).toArray := ⟨_, (N _ hm).1, rfl, _, rfl⟩
  refine len_list hl (by simp; omega) ?_
  simpa using h

local macro_rules | `(tactic| k_all) => `(tactic| assumption)
local macro_rules | `(tactic| k_mem) => `(tactic| first | assumption | exact List.Mem.head _ | (refine List.Mem.tail _ ?_; k_mem))
section
variable {w : World} {A₀ : Around} {E : Value → Shared → Prop} {s : Shared} {L : Addr} {h₀ base : Heap} {m mg mb : Str → Option Value} {news : List (Addr × Obj)} {mean : ExcName → Option Value} {env : Env} {outer : List Env} {Q : Value → Shared → Prop}
  {p : Program} {loose : List Str} {d u : Nat} {gs : Option (List Code)} {mu sg mu2 sg2 : UInt64} {t1 t2 t3 t4 : Tok} {x dx y dy : Addr}
set_option maxRecDepth 100000 in
set_option maxHeartbeats 8000000 in
theorem mkND0 (B : Below A₀ base outer h₀) (F : Fr h₀ L s.heap m) (N : News h₀ L s.heap news) (T : Top p loose mean mg mb h₀)
    (hf : env.frame = some L) (hke : env.scope.kind = .function) (hroom : d + 5 < recursionLimit)
    (h : ∀ (x' dx' : Addr) h' tk t1 t2, 0 < tk → 0 < t1 → 0 < t2 → Fr h₀ L h' m → News h₀ L h' ((x', ndO dx' (.float (Float64.ofInt 0) t1) (.float (Float64.ofInt 0) t2)) :: (dx', dictOf [] 0) :: news) → Q (.ref x') { s with heap := h', toks := tk }) :
    (K2 w.params).In h₀ → wpAny (model PySem.Challenge.rw_oz0057_02.row.prog w) (AA d env outer gs u) (call (.ref 270) [.int 0 t1, .int 0 t2] []) Q E s := by
  k_fill
  k_with_none
  k_with "binaryOp Mult ref int" => (k_here; (with_reducible show wpAny _ _ (binaryOp Operator.Mult (Value.ref _) (Value.int _ _)) _ _ _); k_dflt (refine' mul_ri (by k_asm) (by k_asm) (by k_asm) (by k_asm) (by exact rfl) (by exact rfl) (by first | omega | (simp only [depth_under_make, depth_under_kw, depth_in1, depth_deeper, depth_caller]; first | decide | omega)) (by k_mem) (by k_mem) (by exact Idx.hyb (by assumption)) (by first | assumption | exact nn_mul (by assumption)) ?_ (by k_in)); intro x' d' h' tk' t1' t2' k0' k1' k2' hs' F' N'; (try k_sweep))
  k_with "binaryOp Mult int ref" => (k_here; (with_reducible show wpAny _ _ (binaryOp Operator.Mult (Value.int _ _) (Value.ref _)) _ _ _); k_dflt (refine' mul_ir (by k_asm) (by k_asm) (by k_asm) (by k_asm) (by exact rfl) (by exact rfl) (by first | omega | (simp only [depth_under_make, depth_under_kw, depth_in1, depth_deeper, depth_caller]; first | decide | omega)) (by k_mem) (by k_mem) (by exact Idx.hny (by assumption)) (by first | assumption | exact nn_mul (by assumption)) ?_ (by k_in)); intro x' d' h' tk' t1' t2' k0' k1' k2' hs' F' N'; (try k_sweep))
  k_with "binaryOp Add ref ref" => (k_here; (with_reducible show wpAny _ _ (binaryOp Operator.Add (Value.ref _) (Value.ref _)) _ _ _); k_dflt (refine' add_rr (by k_asm) (by k_asm) (by k_asm) (by k_asm) (by exact rfl) (by exact rfl) (by first | omega | (simp only [depth_under_make, depth_under_kw, depth_in1, depth_deeper, depth_caller]; first | decide | omega)) (by k_mem) (by k_mem) (by k_mem) (by k_mem) (by rename (_ % 2 = 0 → _) => hEx; exact (hEx (par0 (by assumption))).2) ?_ (by k_in)); intro x' d' h' tk' t1' t2' k0' k1' k2' hs' F' N'; (try k_sweep))
  k_with "binaryOp Sub ref ref" => (k_here; (with_reducible show wpAny _ _ (binaryOp Operator.Sub (Value.ref _) (Value.ref _)) _ _ _); k_dflt (refine' sub_rr (by k_asm) (by k_asm) (by k_asm) (by k_asm) (by exact rfl) (by exact rfl) (by first | omega | (simp only [depth_under_make, depth_under_kw, depth_in1, depth_deeper, depth_caller]; first | decide | omega)) (by k_mem) (by k_mem) (by k_mem) (by k_mem) (by rename (_ % 2 = 1 → _) => hEx; exact (hEx (par1 (by assumption))).2) ?_ (by k_in)); intro x' d' h' tk' t1' t2' k0' k1' k2' hs' F' N'; (try k_sweep))
  k_with "execs cons" => (k_here; (first | ((with_reducible refine toks_genP (by first | assumption | exact Nat.zero_lt_succ _ | (simp only [List.length_cons, List.length_nil]; exact Nat.zero_lt_succ _) | omega) ?_); intro tk' hk') | ((with_reducible refine toks_gen1 ?_); intro tk')); (with_reducible refine wpAny_execs_cons ?_); (try dsimp only))
  k_with "execs nil" => (k_here; (first | ((with_reducible refine toks_genP (by first | assumption | exact Nat.zero_lt_succ _ | (simp only [List.length_cons, List.length_nil]; exact Nat.zero_lt_succ _) | omega) ?_); intro tk' hk') | ((with_reducible refine toks_gen1 ?_); intro tk')); (with_reducible refine wpAny_execs_nil ?_); (try dsimp only))
  k_with "call builtin:len" => (k_here; refine len_rs (by k_asm) (by k_mem) (by assumption) ?_)
  k_with "exec For Name Call cons nil" => (k_here; (rename Fr _ _ _ _ => lF'); (with_unfolding_all refine' For_turns lF' ?_; k_whole))
  k_with "eval Call Name" => (k_here; (with_reducible show wpAny _ _ (eval (PySem.Expr.Call (PySem.Expr.Name _ _) _ [] _) _) _ _ _); refine Call_ ?_)
  k_with "pyIter ref" => (k_here; (with_reducible show wpAny _ _ (pyIter (Value.ref _)) (fun it s₂ => TurnsAt _ _ _ _ _ _ _ _ _ it s₂) _ _); refine Stop.of ?_)
  k_with "subscriptTail Name Name ref int" => (k_here; k_dflt (refine' item_iy (by assumption) (by assumption) (by k_asm) (by k_mem) ?_ (by with_unfolding_all rfl)); intro t9)
  k_with "subscriptTail Name Name ref int" => (k_here; k_dflt (refine' item_rd (by assumption) (by k_asm) (by k_mem) ?_ (by with_unfolding_all rfl)))
  intro X₀
  refine' call_cls (K := (K2 w.params)) (fI := 78) F X₀ N ?k4 ?k5 ?k6 ?_
  case k4 => k_is
  case k5 => k_is
  case k6 => k_is
  intro x' d' h' F' N' l1 l2
  k_lt2 l2
  have l3 : ∀ p ∈ news, p.1 ≠ x' := fun p hp => by have := ltN (l1 p hp); exact neN (by omega)
  have l4 : ∀ p ∈ news, p.1 ≠ d' := fun p hp => by have := ltN (l1 p hp); exact neN (by omega)
  refine' code_def (K := (K2 w.params)) B ?k2 ?k3 ?k4 T ?kA hf hke ?k6 ?k7 ?k8 ?k9 ?kB ?_ ?c2 ?c3 ?c4 ?c5
  case kA => exact rfl
  case k2 => k_asm
  case k3 => k_asm
  case k4 => k_asm
  case k6 => k_is
  case k7 => k_is
  case k8 => (simp only [depth_under_make]; omega)
  case k9 => first | exact BindsTo.of_eq rfl | exact binds_K (by k_in) rfl (by k_is) rfl rfl rfl
  case kB => exact locs rfl
  case c5 => decide
  case c2 => exact rfl
  case c3 => exact rfl
  case c4 => exact rfl
  intro g' L' h' FG' F' N' B' X' T'
  dsimp only
  try k_fold
  k_steps
  · rename (Float64.cmpInt 0 0 == some Ordering.gt) = true => hz
    exact absurd hz (by decide +kernel)
  refine' h _ _ _ _ _ _ ?p0 ?p1 ?p2 ?fa ?fb
  case fa => assumption
  case fb => assumption
  case p0 => first | assumption | exact Nat.zero_lt_succ _ | (simp only [List.length_cons, List.length_nil]; exact Nat.zero_lt_succ _) | omega
  case p1 => first | assumption | exact Nat.zero_lt_succ _ | (simp only [List.length_cons, List.length_nil]; exact Nat.zero_lt_succ _) | omega
  case p2 => first | assumption | exact Nat.zero_lt_succ _ | (simp only [List.length_cons, List.length_nil]; exact Nat.zero_lt_succ _) | omega

/-- the loop's invariant: total is a new normal of the ledger's head -/
def WJ (J : Nat → UInt64 → UInt64 → Prop) (m₀ : Str → Option Value) (news : List (Addr × Obj)) (i : Nat) (m : Str → Option Value) (nx : List (Addr × Obj)) : Prop :=
  ∃ (x dx : Addr) (M S : UInt64) (t1 t2 : Tok) (u : Option Value), m = (fun y => if y = Str.ofString "total" then some (.ref x) else if y = Str.ofString "i" then u else m₀ y) ∧ nx = (x, ndO dx (.float M t1) (.float S t2)) :: (dx, dictOf [] 0) :: news ∧ J i M S ∧ 0 < t1 ∧ 0 < t2
theorem wj_intro {J : Nat → UInt64 → UInt64 → Prop} {m₀ m : Str → Option Value} {news : List (Addr × Obj)} {i : Nat} {x dx : Addr} {M S : UInt64} {t1 t2 : Tok} (h1 : m (Str.ofString "total") = some (.ref x)) (h2 : ∀ y, y ≠ Str.ofString "total" → y ≠ Str.ofString "i" → m y = m₀ y) (hJ : J i M S) (p1 : 0 < t1) (p2 : 0 < t2) :
    WJ J m₀ news i m ((x, ndO dx (.float M t1) (.float S t2)) :: (dx, dictOf [] 0) :: news) :=
  ⟨x, dx, M, S, t1, t2, m (Str.ofString "i"), by
    funext y
    by_cases e1 : y = Str.ofString "total"
    · rw [if_pos e1, e1, h1]
    · rw [if_neg e1]
      by_cases e2 : y = Str.ofString "i"
      · rw [if_pos e2, e2]
      · rw [if_neg e2, h2 y e1 e2], rfl, hJ, p1, p2⟩
theorem w_end {J : Nat → UInt64 → UInt64 → Prop} {h₀ h' : Heap} {L I x' d' : Addr} {oI : Obj} {s₁ : Shared} {tk : Nat} {m₀ m' : Str → Option Value} {news : List (Addr × Obj)} {e1 e2 e3 e4 : Addr × Obj} {i : Nat} {M S : UInt64} {t1 t2 : Tok}
    (F : Fr h₀ L h' m') (N : News h₀ L h' ((x', ndO d' (.float M t1) (.float S t2)) :: (d', dictOf [] 0) :: e1 :: e2 :: (I, oI) :: e3 :: e4 :: news)) (hc : oI.cls = .type "range_iterator") (off : ∀ p ∈ e3 :: e4 :: news, p.1 ≠ I)
    (h1 : m' (Str.ofString "total") = some (.ref x')) (h2 : ∀ y, y ≠ Str.ofString "total" → y ≠ Str.ofString "i" → m' y = m₀ y) (hJ : J (i + 1) M S) (p1 : 0 < t1) (p2 : 0 < t2) :
    TEnd h₀ L (WJ J m₀ news (i + 1)) I oI s₁ { s₁ with heap := h', toks := tk } := by
  refine TEnd.intro F N (by simp) ?_ ?_ (wj_intro (dx := d') h1 h2 hJ p1 p2)
  · intro p hp
    simp only [List.mem_cons] at hp ⊢
    rcases hp with h | h | h <;> simp [h]
  · intro p hp
    rcases List.mem_cons.mp hp with rfl | hp
    · exact news_ne N (.head _) (.tail _ (.tail _ (.tail _ (.tail _ (.head _))))) (fun e => by rw [hc] at e; cases e)
    · rcases List.mem_cons.mp hp with rfl | hp
      · exact news_ne N (.tail _ (.head _)) (.tail _ (.tail _ (.tail _ (.tail _ (.head _))))) (fun e => by rw [hc] at e; exact absurd (Value.type.inj e) (by decide))
      · exact off p (.tail _ (.tail _ hp))
set_option maxRecDepth 100000 in
set_option maxHeartbeats 8000000 in
theorem weighed_c {R Wt : Addr} {rs : List Rd} {ws : List Value} {ys : List Int} {J : Nat → UInt64 → UInt64 → Prop}
    (B : Below A₀ base outer h₀) (F : Fr h₀ L s.heap m) (N : News h₀ L s.heap news) (T : Top p loose mean mg mb h₀)
    (hf : env.frame = some L) (hke : env.scope.kind = .function) (hroom : d + 40 < recursionLimit)
    (hR : (R, PyProof.Rows.LCg.lst (rs.map fun r => Value.ref r.x)) ∈ news) (hW : (Wt, PyProof.Rows.LCg.lst ws) ∈ news) (hI : IntsAre ws ys) (hl : rs.length = ys.length) (hl4 : rs.length ≤ 4)
    (hin : ∀ r ∈ rs, (r.x, ndO r.dx (.float r.mu r.t1) (.float r.sg r.t2)) ∈ news ∧ (r.dx, dictOf [] 0) ∈ news) (hnn : ∀ r ∈ rs, NN r.sg) (hyb : ∀ y ∈ ys, y.natAbs < 2 ^ 62)
    (h0 : J 0 (Float64.ofInt 0) (Float64.ofInt 0))
    (he : ∀ i r y M S, i % 2 = 0 → rs[i]? = some r → ys[i]? = some y → J i M S → J (i + 1) (Float64.add M (Float64.mul r.mu (Float64.ofInt y))) (PySem.Builtin.Math.vectorNorm [Float64.abs S, Float64.abs (Float64.mul r.sg (Float64.abs (Float64.ofInt y)))]) ∧ NN (PySem.Builtin.Math.vectorNorm [Float64.abs S, Float64.abs (Float64.mul r.sg (Float64.abs (Float64.ofInt y)))]))
    (ho : ∀ i r y M S, i % 2 = 1 → rs[i]? = some r → ys[i]? = some y → J i M S → J (i + 1) (Float64.sub M (Float64.mul r.mu (Float64.ofInt (-y)))) (PySem.Builtin.Math.vectorNorm [Float64.abs S, Float64.abs (Float64.mul r.sg (Float64.abs (Float64.ofInt (-y))))]) ∧ NN (PySem.Builtin.Math.vectorNorm [Float64.abs S, Float64.abs (Float64.mul r.sg (Float64.abs (Float64.ofInt (-y))))]))
    (h : ∀ (x' dx' : Addr) M S h' tk t1 t2, 0 < t1 → 0 < t2 → J rs.length M S → Fr h₀ L h' m → News h₀ L h' ((x', ndO dx' (.float M t1) (.float S t2)) :: (dx', dictOf [] 0) :: news) → Q (.ref x') { s with heap := h', toks := tk }) :
    (K2 w.params).In h₀ → wpAny (model PySem.Challenge.rw_oz0057_02.row.prog w) (AA d env outer gs u) (call (.ref 288) [.ref R, .ref Wt] []) Q E s := by
  k_fill
  k_with_none
  k_with "binaryOp Mult ref int" => (k_here; (with_reducible show wpAny _ _ (binaryOp Operator.Mult (Value.ref _) (Value.int _ _)) _ _ _); k_dflt (refine' mul_ri (by k_asm) (by k_asm) (by k_asm) (by k_asm) (by exact rfl) (by exact rfl) (by first | omega | (simp only [depth_under_make, depth_under_kw, depth_in1, depth_deeper, depth_caller]; first | decide | omega)) (by k_mem) (by k_mem) (by exact Idx.hyb (by assumption)) (by first | assumption | exact nn_mul (by assumption)) ?_ (by k_in)); intro x' d' h' tk' t1' t2' k0' k1' k2' hs' F' N'; (try k_sweep))
  k_with "binaryOp Mult int ref" => (k_here; (with_reducible show wpAny _ _ (binaryOp Operator.Mult (Value.int _ _) (Value.ref _)) _ _ _); k_dflt (refine' mul_ir (by k_asm) (by k_asm) (by k_asm) (by k_asm) (by exact rfl) (by exact rfl) (by first | omega | (simp only [depth_under_make, depth_under_kw, depth_in1, depth_deeper, depth_caller]; first | decide | omega)) (by k_mem) (by k_mem) (by exact Idx.hny (by assumption)) (by first | assumption | exact nn_mul (by assumption)) ?_ (by k_in)); intro x' d' h' tk' t1' t2' k0' k1' k2' hs' F' N'; (try k_sweep))
  k_with "binaryOp Add ref ref" => (k_here; (with_reducible show wpAny _ _ (binaryOp Operator.Add (Value.ref _) (Value.ref _)) _ _ _); k_dflt (refine' add_rr (by k_asm) (by k_asm) (by k_asm) (by k_asm) (by exact rfl) (by exact rfl) (by first | omega | (simp only [depth_under_make, depth_under_kw, depth_in1, depth_deeper, depth_caller]; first | decide | omega)) (by k_mem) (by k_mem) (by k_mem) (by k_mem) (by rename (_ % 2 = 0 → _) => hEx; exact (hEx (par0 (by assumption))).2) ?_ (by k_in)); intro x' d' h' tk' t1' t2' k0' k1' k2' hs' F' N'; (try k_sweep))
  k_with "binaryOp Sub ref ref" => (k_here; (with_reducible show wpAny _ _ (binaryOp Operator.Sub (Value.ref _) (Value.ref _)) _ _ _); k_dflt (refine' sub_rr (by k_asm) (by k_asm) (by k_asm) (by k_asm) (by exact rfl) (by exact rfl) (by first | omega | (simp only [depth_under_make, depth_under_kw, depth_in1, depth_deeper, depth_caller]; first | decide | omega)) (by k_mem) (by k_mem) (by k_mem) (by k_mem) (by rename (_ % 2 = 1 → _) => hEx; exact (hEx (par1 (by assumption))).2) ?_ (by k_in)); intro x' d' h' tk' t1' t2' k0' k1' k2' hs' F' N'; (try k_sweep))
  k_with "execs cons" => (k_here; (first | ((with_reducible refine toks_genP (by first | assumption | exact Nat.zero_lt_succ _ | (simp only [List.length_cons, List.length_nil]; exact Nat.zero_lt_succ _) | omega) ?_); intro tk' hk') | ((with_reducible refine toks_gen1 ?_); intro tk')); (with_reducible refine wpAny_execs_cons ?_); (try dsimp only))
  k_with "execs nil" => (k_here; (first | ((with_reducible refine toks_genP (by first | assumption | exact Nat.zero_lt_succ _ | (simp only [List.length_cons, List.length_nil]; exact Nat.zero_lt_succ _) | omega) ?_); intro tk' hk') | ((with_reducible refine toks_gen1 ?_); intro tk')); (with_reducible refine wpAny_execs_nil ?_); (try dsimp only))
  k_with "call builtin:len" => (k_here; refine len_rs (by k_asm) (by k_mem) (by assumption) ?_)
  k_with "exec For Name Call cons nil" => (k_here; (rename Fr _ _ _ _ => lF'); (with_unfolding_all refine' For_turns lF' ?_; k_whole))
  k_with "eval Call Name" => (k_here; (with_reducible show wpAny _ _ (eval (PySem.Expr.Call (PySem.Expr.Name _ _) _ [] _) _) _ _ _); refine Call_ ?_)
  k_with "pyIter ref" => (k_here; (with_reducible show wpAny _ _ (pyIter (Value.ref _)) (fun it s₂ => TurnsAt _ _ _ _ _ _ _ _ _ it s₂) _ _); refine Stop.of ?_)
  k_with "subscriptTail Name Name ref int" => (k_here; k_dflt (refine' item_iy (by assumption) (by assumption) (by k_asm) (by k_mem) ?_ (by with_unfolding_all rfl)); intro t9)
  k_with "subscriptTail Name Name ref int" => (k_here; k_dflt (refine' item_rd (by assumption) (by k_asm) (by k_mem) ?_ (by with_unfolding_all rfl)))
  k_with "call ref" => (k_here; (with_reducible show wpAny _ _ (call (Value.ref 270) [Value.int _ _, Value.int _ _] _) _ _ _); k_dflt (refine' mkND0 (by k_asm) (by k_asm) (by k_asm) (by k_asm) (by exact rfl) (by exact rfl) (by first | omega | (simp only [depth_under_make, depth_under_kw, depth_in1, depth_deeper, depth_caller]; omega)) ?_ (by k_in)); intro x' d' h' tk' t1' t2' k0' k1' k2' F' N'; (try k_sweep))
  intro X₀
  refine wpAny_call ?_
  refine' code_def (K := (K2 w.params)) B ?k2 ?k3 ?k4 T ?kA hf hke ?k6 ?k7 ?k8 ?k9 ?kB ?_ ?c2 ?c3 ?c4 ?c5
  case kA => exact rfl
  case k2 => k_asm
  case k3 => k_asm
  case k4 => k_asm
  case k6 => k_is
  case k7 => k_is
  case k8 => (show d < _; omega)
  case k9 => first | exact BindsTo.of_eq rfl | exact binds_K (by k_in) rfl (by k_is) rfl rfl rfl
  case kB => exact locs rfl
  case c5 => decide
  case c2 => exact rfl
  case c3 => exact rfl
  case c4 => exact rfl
  intro g' L' h' FG' F' N' B' X' T'
  dsimp only
  try k_fold
  k_steps
  refine Stop.goes ?_
  rename IsRange _ _ _ _ _ _ _ _ => rgX
  rename Fr _ _ _ _ => lF
  rename News _ _ _ _ => lN
  with_unfolding_all refine' range_inv2 (WJ J _ news) (by rfl) rgX ?small (by exact rangeSize_nat _ _) lF lN (wj_intro (by rfl) (fun y e1 e2 => if_neg e1) h0 (by assumption) (by assumption)) ?turn ?done
  case small => exact small_one (by decide) (by decide) (by omega) (by omega)
  case done =>
    rintro m1 nx1 h1 tk1 ⟨x, dx, M, S, t1, t2, u', rfl, rfl, hJ, p1, p2⟩ F1 N1
    rw [show ((rs.length : Int) - 0).toNat = rs.length by omega] at hJ
    clear lF lN
    dsimp only
    k_steps
    refine' h _ _ _ _ _ _ _ _ p1 p2 hJ ?qa ?qb
    case qa => assumption
    case qb => assumption
  rintro i t m1 nx1 h1 tk1 I oI hi ⟨x, dx, M, S, t1, t2, u', rfl, rfl, hJ, p1, p2⟩ F1 N1 off hcI
  rw [show ((rs.length : Int) - 0).toNat = rs.length by omega] at hi
  clear lF lN rgX
  dsimp only
  obtain ⟨r, hr⟩ : ∃ r, rs[i]? = some r := ⟨_, List.getElem?_eq_getElem hi⟩
  obtain ⟨y, hy⟩ : ∃ y, ys[i]? = some y := ⟨_, List.getElem?_eq_getElem (hl ▸ hi)⟩
  have hyb1 := hyb y (List.mem_of_getElem? hy)
  have ix : Idx i r rs y ys := ⟨hr, hy, by omega, by omega, by omega⟩
  obtain ⟨hrx, hrd⟩ := hin r (List.mem_of_getElem? hr)
  have hrn := hnn r (List.mem_of_getElem? hr)
  have hE := fun hp => he i r y M S hp hr hy hJ
  have hO := fun hp => ho i r y M S hp hr hy hJ
  k_steps
  · rename (_ + (i : Int)).fmod 2 = 0 => hpar
    refine' w_end ?eF ?eN hcI off ?ea ?eb (hE (par0 hpar)).1 ?e1 ?e2
    case eF => assumption
    case eN => assumption
    case ea => rfl
    case eb => exact fun y a b => (if_neg a).trans ((if_neg b).trans ((if_neg a).trans (if_neg b)))
    case e1 => assumption
    case e2 => assumption
  · rename (_ + (i : Int)).fmod 2 ≠ 0 => hpar
    refine' w_end ?oF ?oN hcI off ?oa ?ob (hO (par1 hpar)).1 ?o1 ?o2
    case oF => assumption
    case oN => assumption
    case oa => rfl
    case ob => exact fun y a b => (if_neg a).trans ((if_neg b).trans ((if_neg a).trans (if_neg b)))
    case o1 => assumption
    case o2 => assumption

end
end Mine


end HW2
section W2H
open PySem PySem.W PySem.Calls PyProof.Rows
open PySem.Builtin.Math
set_option linter.unusedVariables false
set_option Elab.async false
namespace Mine
/-- all that is known of a turn's numbers -/
structure WF (n : Nat) (far : Int) (T P B : Int → Int) (u v : Int) (sl un : UInt64) (rs : List Rd) (g : Int → Int) : Prop where
  ln : LNS n far T P B
  ub : UB u
  dun : Dy un u 1071
  dsl : Dy sl v 1071
  slb : SLB v
  rds : RDS rs n sl un far T P
  kd : Kind n (fun i => B i) (fun i => g i)
def nnf (n : Nat) (far : Int) (T : Int → Int) (u : Int) (g : Int → Int) (i : Nat) : Nat := if i < n then (T i * far * u).natAbs * (g i).natAbs else 0
def JW (n : Nat) (far : Int) (T P : Int → Int) (u v : Int) (g : Int → Int) (i : Nat) (M S : UInt64) : Prop := Dy M (v * sumN (fun j => P j * g j) i) 1071 ∧ SQ (nnf n far T u g) i S
variable {n : Nat} {far : Int} {T P B : Int → Int} {u v : Int} {sl un : UInt64} {rs : List Rd} {g : Int → Int}
theorem WF.gb (H : WF n far T P B u v sl un rs g) {i : Nat} (hi : i < n) : (g i).natAbs ≤ 3025 := by
  have hb := H.ln.bb hi
  rcases H.kd with ⟨a, ha, hw⟩ | ⟨a, k, ha, hk, hw⟩ | hw
  · have := hw i hi
    dsimp only at this
    rw [this]
    have := ab_le (a := a) (b := B i) (A := 3) (B := 1008) (by omega) hb
    omega
  · have := hw i hi
    dsimp only at this
    rw [this]
    have := ab_le (a := a) (b := B i) (A := 3) (B := 1008) (by omega) hb
    split <;> omega
  · have := hw i hi
    dsimp only at this
    omega
theorem WF.len (H : WF n far T P B u v sl un rs g) : rs.length = (List.map g (rangeKs 0 n)).length := by
  rw [H.rds.len, List.length_map, rangeKs_length]
theorem WF.len4 (H : WF n far T P B u v sl un rs g) : rs.length ≤ 4 := by
  rw [H.rds.len]; exact H.ln.nb.2.1
theorem WF.sgd (H : WF n far T P B u v sl un rs g) {i : Nat} {r : Rd} (h : rs[i]? = some r) : i < n ∧ Dy r.mu (v * P i) 1071 ∧ Dy r.sg (T i * far * u) 1071 := by
  have hi : i < n := by
    have := (List.getElem?_eq_some_iff.mp h).1
    rw [H.rds.len] at this
    exact this
  obtain ⟨e1, e2⟩ := H.rds.at' i r h
  have h1 := H.slb.lo
  have h2 := H.slb.hi
  refine ⟨hi, ?_, ?_⟩
  · rw [e1]
    exact dy_wi H.dsl (A := 2 ^ 20) (B := 336) (by omega) (H.ln.pb hi) (by decide) (by decide) (by decide)
  · rw [e2]
    exact H.ln.sg H.ub.b H.dun hi
theorem WF.hnn (H : WF n far T P B u v sl un rs g) : ∀ r ∈ rs, NN r.sg := by
  intro r hr
  obtain ⟨i, hi⟩ := List.getElem?_of_mem hr
  obtain ⟨h1, _, h3⟩ := H.sgd hi
  exact nn_fv h3 (Int.mul_nonneg (tfu (H.ln.tf h1) H.ub.b).1 (Int.le_of_lt (pow_pos_int _)))
theorem at_ix {f : Int → Int} {i : Nat} {y : Int} (h : (List.map f (rangeKs 0 n))[i]? = some y) : i < n ∧ y = f i := by
  unfold rangeKs at h
  rw [List.map_map, List.getElem?_map] at h
  rcases Nat.lt_or_ge i n with hi | hi
  · rw [List.getElem?_range hi] at h
    refine ⟨hi, ?_⟩
    have := Option.some.inj h
    rw [← this]
    simp
  · rw [List.getElem?_eq_none (by simpa using hi)] at h
    cases h
theorem WF.hyb (H : WF n far T P B u v sl un rs g) : ∀ y ∈ List.map g (rangeKs 0 n), y.natAbs < 2 ^ 62 := by
  intro y hy
  obtain ⟨i, hi⟩ := List.getElem?_of_mem hy
  obtain ⟨h1, rfl⟩ := at_ix hi
  have := H.gb h1
  omega
theorem nnf_b (H : WF n far T P B u v sl un rs g) (i : Nat) : nnf n far T u g i ≤ 2 ^ 23 := by
  unfold nnf
  split
  · rename_i hi
    have h1 := tfu (H.ln.tf hi) H.ub.b
    have h2 := H.gb hi
    have : (T i * far * u).natAbs * (g i).natAbs ≤ 1700 * 3025 := Nat.mul_le_mul (by omega) h2
    omega
  · exact Nat.zero_le _
theorem sumN_b {f : Nat → Int} {C : Nat} (h : ∀ i, i < n → (f i).natAbs ≤ C) : ∀ i, i ≤ n → (sumN f i).natAbs ≤ i * C
  | 0, _ => by simp [sumN]
  | i + 1, hi => by
    have h1 := sumN_b h i (by omega)
    have h2 := h i (by omega)
    show (sumN f i + f i).natAbs ≤ _
    have e : (i + 1) * C = i * C + C := Nat.succ_mul _ _
    omega
theorem WF.pgb (H : WF n far T P B u v sl un rs g) {i : Nat} (hi : i < n) : (P i * g i).natAbs ≤ 1016400 := ab_le (A := 336) (B := 3025) (H.ln.pb hi) (H.gb hi)
theorem WF.sb (H : WF n far T P B u v sl un rs g) {i : Nat} (hi : i ≤ n) : (sumN (fun j => P j * g j) i).natAbs ≤ 4065600 := by
  have h1 := sumN_b (n := n) (f := fun j => P j * g j) (C := 1016400) (fun i h => H.pgb h) i hi
  have h2 := H.ln.nb.2.1
  omega
theorem WF.vsb (H : WF n far T P B u v sl un rs g) {i : Nat} (hi : i ≤ n) : (v * sumN (fun j => P j * g j) i).natAbs ≤ 2 ^ 43 := by
  have h1 := H.slb.lo
  have h2 := H.slb.hi
  have := ab_le (a := v) (b := sumN (fun j => P j * g j) i) (A := 2 ^ 20) (B := 4065600) (by omega) (H.sb hi)
  omega
theorem ofInt0 : Fv (Float64.ofInt 0) 0 := by
  have := dy_ofInt (i := 0) (by decide)
  unfold Dy at this
  rwa [Int.zero_mul] at this
theorem jw_0 : JW n far T P u v g 0 (Float64.ofInt 0) (Float64.ofInt 0) := by
  refine ⟨?_, sq_zero ofInt0⟩
  have : v * sumN (fun j => P j * g j) 0 = 0 := by simp [sumN]
  rw [this]
  exact dy_zero ofInt0 _
theorem jw_step (H : WF n far T P B u v sl un rs g) {i : Nat} {r : Rd} {M M' S : UInt64} {w' : Int} (hr : rs[i]? = some r) (hM : Dy M' (v * sumN (fun j => P j * g j) (i + 1)) 1071) (hw : w'.natAbs = (g i).natAbs) (hJ : JW n far T P u v g i M S) :
    JW n far T P u v g (i + 1) M' (vectorNorm [Float64.abs S, Float64.abs (Float64.mul r.sg (Float64.abs (Float64.ofInt w')))]) ∧ NN (vectorNorm [Float64.abs S, Float64.abs (Float64.mul r.sg (Float64.abs (Float64.ofInt w')))]) := by
  obtain ⟨hi, _, h3⟩ := H.sgd hr
  have h1 := tfu (H.ln.tf hi) H.ub.b
  have h2 := H.gb hi
  have hB : Dy (Float64.mul r.sg (Float64.abs (Float64.ofInt w'))) (nnf n far T u g i : Int) 1071 := by
    have := dy_wa h3 (w := w') (A := 1700) (B := 3025) (by omega) (by omega) (by decide) (by decide) (by decide)
    have e : T i * far * u * (w'.natAbs : Int) = ((nnf n far T u g i : Nat) : Int) := by
      unfold nnf
      rw [if_pos hi, hw, Int.natCast_mul, Int.natAbs_of_nonneg h1.1]
    rwa [e] at this
  have h4 := H.ln.nb.2.1
  obtain ⟨a, b⟩ := sq_step hJ.2 hB (nnf_b H) (by omega)
  exact ⟨⟨hM, a⟩, b⟩
theorem sum_succ (i : Nat) : v * sumN (fun j => P j * g j) (i + 1) = v * sumN (fun j => P j * g j) i + v * P i * g i := by
  show v * (sumN (fun j => P j * g j) i + P i * g i) = _
  rw [Int.mul_add, Int.mul_assoc]
theorem jw_e (H : WF n far T P B u v sl un rs g) : ∀ (i : Nat) (r : Rd) (y : Int) (M S : UInt64), i % 2 = 0 → rs[i]? = some r → (List.map g (rangeKs 0 n))[i]? = some y → JW n far T P u v g i M S → JW n far T P u v g (i + 1) (Float64.add M (Float64.mul r.mu (Float64.ofInt y))) (vectorNorm [Float64.abs S, Float64.abs (Float64.mul r.sg (Float64.abs (Float64.ofInt y)))]) ∧ NN (vectorNorm [Float64.abs S, Float64.abs (Float64.mul r.sg (Float64.abs (Float64.ofInt y)))]) := by
  intro i r y M S _ hr hy hJ
  obtain ⟨hi, rfl⟩ := at_ix hy
  obtain ⟨_, h2, _⟩ := H.sgd hr
  refine jw_step H hr ?_ rfl hJ
  have hv1 := H.slb.lo
  have hv2 := H.slb.hi
  have hvp : (v * P i).natAbs ≤ 2 ^ 20 * 336 := ab_le (by omega) (H.ln.pb hi)
  have d := dy_wi h2 (w := g i) (A := 2 ^ 20 * 336) (B := 3025) hvp (H.gb hi) (by decide) (by decide) (by decide)
  rw [sum_succ]
  refine dy_add hJ.1 d ?_ (by decide)
  rw [← sum_succ]
  have := H.vsb (i := i + 1) hi
  omega
theorem jw_o (H : WF n far T P B u v sl un rs g) : ∀ (i : Nat) (r : Rd) (y : Int) (M S : UInt64), i % 2 = 1 → rs[i]? = some r → (List.map g (rangeKs 0 n))[i]? = some y → JW n far T P u v g i M S → JW n far T P u v g (i + 1) (Float64.sub M (Float64.mul r.mu (Float64.ofInt (-y)))) (vectorNorm [Float64.abs S, Float64.abs (Float64.mul r.sg (Float64.abs (Float64.ofInt (-y))))]) ∧ NN (vectorNorm [Float64.abs S, Float64.abs (Float64.mul r.sg (Float64.abs (Float64.ofInt (-y))))]) := by
  intro i r y M S _ hr hy hJ
  obtain ⟨hi, rfl⟩ := at_ix hy
  obtain ⟨_, h2, _⟩ := H.sgd hr
  refine jw_step H hr ?_ (Int.natAbs_neg _) hJ
  have hv1 := H.slb.lo
  have hv2 := H.slb.hi
  have hvp : (v * P i).natAbs ≤ 2 ^ 20 * 336 := ab_le (by omega) (H.ln.pb hi)
  have d := dy_wi h2 (w := -g i) (A := 2 ^ 20 * 336) (B := 3025) hvp (by have := H.gb hi; omega) (by decide) (by decide) (by decide)
  have e : v * sumN (fun j => P j * g j) (i + 1) = v * sumN (fun j => P j * g j) i - v * P i * -g i := by
    rw [sum_succ, Int.mul_neg]; omega
  rw [e]
  refine dy_sub hJ.1 d ?_ (by decide)
  rw [← e]
  have := H.vsb (i := i + 1) hi
  omega
end Mine
namespace Mine
variable {n : Nat} {far : Int} {T P B : Int → Int} {u v : Int} {sl un : UInt64} {rs : List Rd} {g : Int → Int}
theorem WF.gok (H : WF n far T P B u v sl un rs g) {k b : Int} (h0 : 0 ≤ k) (h1 : k < 0 + (n : Int)) : IntMulOk (g (0 + k)) b := by
  obtain ⟨i, rfl, hi⟩ := of_ix h0 h1
  rw [Int.zero_add]
  have := H.gb hi
  exact PySem.IntMulOk.of_left (intBits_le_64 (by omega) (by omega))
theorem WF.gok0 (H : WF n far T P B u v sl un rs g) {b : Int} : IntMulOk (g (0 + 0)) b := by
  have hn := H.ln.nb.1
  exact H.gok (k := 0) (Int.le_refl _) (by omega)
theorem n_pos {m : Int} (h : 2 ≤ m) : (0 : Int) < ((m - 0).toNat : Int) := by omega
/-- a sight that is not 0 -/
structure QF (q : Int) : Prop where
  k0 : q ≠ 0
  kb : q.natAbs ≤ 4065600
abbrev hf2 (q : Int) : UInt64 := Float64.ofFrac (decide (q < 0) != decide ((2 : Int) < 0)) q.natAbs (Int.natAbs 2)
theorem QF.k63 {q : Int} (h : QF q) : q.natAbs < 2 ^ 63 := by have := h.kb; omega
theorem QF.k62 {q : Int} (h : QF q) : q.natAbs < 2 ^ 62 := by have := h.kb; omega
theorem QF.nz {q : Int} (h : QF q) : ¬ Float64.isZero (Float64.abs (Float64.ofInt q)) = true := nz_abs h.k63 h.k0
theorem dy_hf2 {q : Int} (h : q.natAbs < 2 ^ 53) : Dy (hf2 q) q 1073 := dy_frac (j := 1) (by cases decide (q < 0) <;> rfl) (by decide) (by decide) h
theorem QF.dh {q : Int} (h : QF q) : Dy (hf2 q) q 1073 := dy_hf2 (by have := h.kb; omega)
theorem fv_nz {x : UInt64} {v : Int} (h : Fv x v) (h0 : v ≠ 0) : ¬ Float64.isZero x = true := by
  rw [(fv_flags h).2.2]
  exact fun e => h0 (of_decide_eq_true e)
theorem dy_nz {x : UInt64} {v : Int} {k : Nat} (h : Dy x v k) (h0 : v ≠ 0) : ¬ Float64.isZero x = true :=
  fv_nz h (fun e => by rcases Int.mul_eq_zero.mp e with e | e; exact h0 e; exact absurd e (Int.ne_of_gt (pow_pos_int _)))
theorem QF.hz0 {q : Int} (h : QF q) : ¬ Float64.isZero (hf2 q) = true := dy_nz h.dh h.k0
theorem QF.hz1 {q : Int} (h : QF q) : ¬ Float64.isZero (Float64.abs (hf2 q)) = true := dy_nz (dy_abs h.dh) (by have := h.k0; omega)
theorem div2 {prog : Program} {w : World} {A : Around} {E : Value → Shared → Prop} {s : Shared} {Q : Value → Shared → Prop} {a : Int} {t u : Tok} (hA : A.handled = none) (hfit : a.natAbs < 2 ^ 62) (h : Q (.float (hf2 a) s.toks) { s with toks := s.toks + 1 }) : wpAny (model prog w) A (binaryOp .Div (.int a t) (.int 2 u)) Q E s :=
  Flt.div_ii_fits hA (Nat.lt_trans hfit (by decide +kernel)) (fun h => absurd h (by decide)) fun _ _ => h
theorem cmpInt0 {a : UInt64} (h : Fv a 0) : (Float64.cmpInt a 0 != some Ordering.eq) = false := by
  have hz := (fv_flags h).2.2
  obtain ⟨s, m, e, hd, hv⟩ := h
  unfold Float64.isZero at hz
  rw [hd] at hz
  have hm : m = 0 := by
    cases m with
    | zero => rfl
    | succ m => simp at hz
  subst hm
  unfold Float64.cmpInt
  rw [hd]
  simp [sgn_eq]
end Mine
namespace Mine
open PySem.Builtin.Math
variable {n : Nat} {far : Int} {T P B : Int → Int} {u v : Int} {sl un : UInt64} {rs : List Rd} {g : Int → Int}
theorem sum_range (f : Int → Int) : (List.map f (rangeKs 0 n)).sum = sumN (fun j => f j) n := by
  unfold rangeKs
  rw [List.map_map]
  induction n with
  | zero => rfl
  | succ n ih =>
    rw [List.range_succ, List.map_append, List.sum_append, ih]
    simp [sumN]
/-- the total and the sight of a turn -/
structure TF (n : Nat) (far : Int) (T P : Int → Int) (u v : Int) (g : Int → Int) (M S : UInt64) (q : Int) : Prop where
  qe : q = sumN (fun j => P j * g j) n
  qb : q.natAbs ≤ 4065600
  dm : Dy M (v * q) 1071
  sq : SQ (nnf n far T u g) n S
theorem tf_mk (H : WF n far T P B u v sl un rs g) {M S : UInt64} {q : Int} (hJ : JW n far T P u v g rs.length M S) (hq : q = (List.map (fun k' => g (0 + k') * P (0 + k')) (rangeKs 0 n)).sum) : TF n far T P u v g M S q := by
  have qe : q = sumN (fun j => P j * g j) n := by
    rw [hq, sum_range]
    refine sumN_congr fun i _ => ?_
    rw [Int.zero_add, Int.mul_comm]
  rw [H.rds.len] at hJ
  refine ⟨qe, ?_, ?_, hJ.2⟩
  · rw [qe]; exact H.sb (Nat.le_refl _)
  · rw [qe]; exact hJ.1
theorem TF.m0 {M S : UInt64} {q : Int} (H : TF n far T P u v g M S q) (h : q = 0) : (Float64.cmpInt M 0 != some Ordering.eq) = false := by
  have := H.dm
  rw [h, Int.mul_zero] at this
  exact cmpInt0 (zero_dy this)
end Mine
namespace Mine
structure QZ (q : Int) : Prop where
  z : q = 0
theorem QZ.t {q : Int} (h : QZ q) : (q == 0) = true := by rw [h.z]; rfl
theorem QF.f {q : Int} (h : QF q) : (q == 0) = false := beq_eq_false_iff_ne.mpr h.k0
end Mine
namespace Mine
variable {n : Nat} {far : Int} {T P B : Int → Int} {u v : Int} {sl un : UInt64} {rs : List Rd} {g : Int → Int} {M S : UInt64} {q : Int}
theorem TF.nn (H : TF n far T P u v g M S q) : NN S := by
  obtain ⟨⟨r, hr, _⟩, _⟩ := H.sq
  exact nn_fv hr (Int.mul_nonneg (Int.natCast_nonneg _) (Int.le_of_lt (pow_pos_int _)))
theorem UB.nn {x : UInt64} (h : UB u) (hx : Dy x u 1071) : NN x := nn_fv hx (Int.mul_nonneg (by have := h.b; omega) (Int.le_of_lt (pow_pos_int _)))
end Mine

end W2H
section KD
open PySem PySem.W PySem.Calls PyProof.Rows PySem.Spec
set_option linter.unusedVariables false
set_option Elab.async false
namespace Mine
/-- a call of a def that catches, from a frame with cells, itself the lowest one -/
theorem code_defE {prog : Program} {w : World} {A₀ A : Around} {s : Shared} {base h₀ : Heap} {L : Addr} {m : Str → Option Value} {env : Env} {news : List (Addr × Obj)} {K : Frag} {p : Program} {loose : List Str} {mean : ExcName → Option Value} {mg mb : Str → Option Value}
    {R : Result → Shared → Prop} {name qual : Str} {params : Arguments} {body : List Stmt} {scope : Scope} {dV kV doc pm cdv ct oc : Value} {an od : Option Addr} {osl : Array (Option Value)} {f : Addr} {args : Args} {binds : List (Str × Value)}
    (B : Below A₀ base [] h₀) (F : Fr h₀ L s.heap m) (X₀ : K.In h₀) (N : News h₀ L s.heap news) (T : Top p loose mean mg mb h₀) (hA : A.frames = some [env]) (hf : env.frame = some L) (hke : env.scope.kind = .function)
    (ho : K.lookup f = some ⟨oc, od, .func (fnOf name qual params body scope dV kV doc pm an cdv ct), osl⟩) (hcd : codeIn K cdv qual = true) (hroom : A.depth < recursionLimit)
    (hbind : BindsTo s (fnOf name qual params body scope dV kV doc pm an cdv ct) args binds) (hloc : ∀ y ∈ binds, scope.names.lookup y.1 = some .local)
    (h : ∀ g L' h₁, Fr h₀ L g m → Fr g L' h₁ (fun y => binds.reverse.lookup y) → News g L' h₁ news → Below A base [env] g → K.In g → Top p loose mean mg mb g → KtsDicts ([env].filterMap (·.frame)) g →
      wpAny (model prog w) (A.deeper (envOf qual scope L' f cdv)) (execs body (envOf qual scope L' f cdv))
        (fun fl s' => LeaveS0 ([env].filterMap (·.frame)) h₀ L m g R (match fl with | .ret v => v | _ => .none) s')
        (fun e s' => wpAny (model prog w) (A.deeper (envOf qual scope L' f cdv)) (leaving (envOf qual scope L' f cdv) e) (fun _ s'' => R (.error e) s'') (fun e' s'' => R (.error e') s'') s')
        { s with heap := h₁, toks := s.toks + binds.length })
    (hco : scope.isCoroutine = false) (hgen : scope.isGenerator = false) (hk : scope.kind = .function)
    (hcell : ∀ x ∈ scope.names, x.2 ≠ .cell) : codeAny (model prog w) A (.call (.ref f) args) R s := by
  have fs : [env].filterMap (·.frame) = [L] := by simp [hf]
  have XK := X₀.keeps F.keep
  have nL : h₀.get? L = none := Heap.get?_none_of_le F.above
  refine codeAny_call_def (fd := fnOf name qual params body scope dV kV doc pm an cdv ct) (body := body) (binds := binds) hroom (XK _ _ ho) rfl (T.nolimit.keeps F.keep) (codeRec_of XK hcd) rfl hbind hcell hloc (fun h₁ hns hk₁ => ?_) hco hgen hk
  obtain ⟨FG, B₂, st, _⟩ := groundX (R := R) B F N hA hf hke
  obtain ⟨oL, es, ep, hLg, hLd, hsk, hfind⟩ := FG.ns
  have news₁ : News (hideAll s.heap (news.map (·.1))) s.heap.objs.size h₁ news := fun q hq => by
    refine ⟨hk₁ _ _ (N q hq).1, Nat.ne_of_lt (Heap.lt_size (N q hq).1), hideAll_none _ (List.mem_map_of_mem hq)⟩
  have dicts : KtsDicts ([env].filterMap (·.frame)) (hideAll s.heap (news.map (·.1))) := by
    rw [fs]
    intro b hb
    rw [List.mem_singleton.mp hb]
    exact ⟨oL, es, ep, hLg, hLd⟩
  refine wpAny_mono (h _ s.heap.objs.size h₁ FG ⟨hns, fun b o e => hk₁ b o (of_hideAll _ e), Nat.le_of_eq (hideAll_size _ _)⟩ news₁ B₂ (X₀.keeps st) (T.keeps st) dicts) (fun fl s' hl => ?_) fun _ _ y => y
  obtain ⟨g', L', m', news', T', F', N', k⟩ := hl
  obtain ⟨sl, hs⟩ := T'.up hLg
  have old : ∀ b o, h₀.get? b = some o → g'.get? b = some o := fun b o e => T'.other b o (st b o e) (fun hm => by
    rw [fs] at hm
    rw [List.mem_singleton.mp hm, nL] at e
    cases e)
  refine k ⟨⟨_, es, ep, F'.keep _ _ hs, hLd, hsk, hfind⟩, fun b o e => F'.keep b o (old b o e), F.above⟩ fun q hq => ⟨(N' q hq).1, fun e => ?_, ?_⟩
  · have h2 := (N' q hq).2.2
    rw [e, hs] at h2
    cases h2
  · cases hb : h₀.get? q.1 with
    | none => rfl
    | some o =>
      have h2 := (N' q hq).2.2
      rw [old _ _ hb] at h2
      cases h2
end Mine

end KD
section HP2
open PySem PySem.W PySem.Calls PyProof.Rows
set_option Elab.async false
set_option linter.unusedVariables false
namespace Mine
local macro_rules | `(tactic| walk_at $s:str) => `(tactic| k_extra $s)
local macro_rules | `(tactic| k_all) => `(tactic| assumption)
local macro_rules | `(tactic| k_mem) => `(tactic| assumption)
theorem abs0 : Float64.isZero (Float64.abs (Float64.ofInt 0)) = true := by decide +kernel
set_option maxRecDepth 100000 in
set_option maxHeartbeats 8000000 in
theorem refused_c {w : World} {A₀ : Around} {E : Value → Shared → Prop} {s : Shared} {L : Addr} {h₀ base : Heap} {m mg mb : Str → Option Value} {news : List (Addr × Obj)} {mean : ExcName → Option Value} {env : Env} {Q : Value → Shared → Prop}
  {p : Program} {loose : List Str} {d u : Nat} {gs : Option (List Code)} {mu sg : UInt64} {t1 t2 : Tok} {x dx : Addr}
    (B : Below A₀ base [] h₀) (F : Fr h₀ L s.heap m) (N : News h₀ L s.heap news) (T : Top p loose mean mg mb h₀) (XB : (K2 w.params).In base) (TB : Top p loose mean mg mb base)
    (hf : env.frame = some L) (hke : env.scope.kind = .function) (hroom : d + 25 < recursionLimit)
    (hx : (x, ndO dx (.float mu t1) (.float sg t2)) ∈ news) (hdx : (dx, dictOf [] 0) ∈ news)
    (h : ∀ h' tk, Fr h₀ L h' m → News h₀ L h' news → Q (.bool true) { s with heap := h', toks := tk }) :
    (K2 w.params).In h₀ → wpAny (model PySem.Challenge.rw_oz0057_02.row.prog w) (AA d env [] gs u) (call (.ref 295) [.ref x] []) Q E s := by
  k_fill
  k_with_none
  k_with "execs cons" => (k_here; (first | ((with_reducible refine toks_genP (by first | assumption | exact Nat.zero_lt_succ _ | (simp only [List.length_cons, List.length_nil]; exact Nat.zero_lt_succ _) | omega) ?_); intro tk' hk') | ((with_reducible refine toks_gen1 ?_); intro tk')); (with_reducible refine wpAny_execs_cons ?_); (try dsimp only))
  k_with "execs nil" => (k_here; (first | ((with_reducible refine toks_genP (by first | assumption | exact Nat.zero_lt_succ _ | (simp only [List.length_cons, List.length_nil]; exact Nat.zero_lt_succ _) | omega) ?_); intro tk' hk') | ((with_reducible refine toks_gen1 ?_); intro tk')); (with_reducible refine wpAny_execs_nil ?_); (try dsimp only))
  intro X₀
  refine wpAny_call ?_
  refine' code_defE (K := (K2 w.params)) B ?k2 ?k3 ?k4 T ?kA hf hke ?k6 ?k7 ?k8 ?k9 ?kB ?_ ?c2 ?c3 ?c4 ?c5
  case kA => exact rfl
  case k2 => k_asm
  case k3 => k_asm
  case k4 => k_asm
  case k6 => k_is
  case k7 => k_is
  case k8 => (show d < _; omega)
  case k9 => first | exact BindsTo.of_eq rfl | exact binds_K (by k_in) rfl (by k_is) rfl rfl rfl
  case kB => exact locs rfl
  case c5 => decide
  case c2 => exact rfl
  case c3 => exact rfl
  case c4 => exact rfl
  intro g' L' h' FG' F' N' B' X' T' D'
  dsimp only
  try k_fold
  k_steps
  refine wpAny_call ?_
  refine' code_def (K := (K2 w.params)) B' ?e2 ?e3 ?e4 T' ?eA ?ex ?ey ?e6 ?e7 ?e8 ?e9 ?eB ?_ ?f2 ?f3 ?f4 ?f5
  case eA => exact rfl
  case ex => exact rfl
  case ey => exact rfl
  case e2 => k_asm
  case e3 => k_asm
  case e4 => k_asm
  case e6 => k_is
  case e7 => k_is
  case e8 => (simp only [depth_under_make, depth_under_kw, depth_in1, depth_deeper, depth_caller]; show _ < _; omega)
  case e9 => first | exact BindsTo.of_eq rfl | exact binds_K (by k_in) rfl (by k_is) rfl rfl rfl
  case eB => exact locs rfl
  case f5 => decide
  case f2 => exact rfl
  case f3 => exact rfl
  case f4 => exact rfl
  intro g2 L2 h2 FG2 F2 N2 B2 X2 T2
  dsimp only
  try k_fold
  k_steps
  · refine' h _ _ ?z1 ?z2
    case z1 => assumption
    case z2 => assumption
  all_goals exact absurd abs0 (by assumption)
end Mine



end HP2
section W2T
open PySem PySem.W PySem.Calls PyProof.Rows
open PySem.Builtin.Math
set_option linter.unusedVariables false
set_option Elab.async false
set_option exponentiation.threshold 3000
namespace Mine
variable {n : Nat} {far : Int} {T P B : Int → Int} {u v : Int} {sl un : UInt64} {rs : List Rd} {g : Int → Int} {M S : UInt64} {q : Int}
theorem alg_sq (t f u w : Int) : t * f * u * (t * f * u) * (w * w) = f * f * (u * u) * (t * w * (t * w)) := by ac_rfl
theorem abs_sq (a b : Int) : ((a.natAbs * b.natAbs : Nat) : Int) * ((a.natAbs * b.natAbs : Nat) : Int) = a * a * (b * b) := by
  have e1 := Int.natAbs_mul_self (a := a)
  have e2 := Int.natAbs_mul_self (a := b)
  rw [← e1, ← e2, Int.natCast_mul, Int.natCast_mul, Int.natCast_mul]
  ac_rfl
theorem nnf_sq {i : Nat} (hi : i < n) : ((nnf n far T u g i : Nat) : Int) * ((nnf n far T u g i : Nat) : Int) = far * far * (u * u) * (T i * g i * (T i * g i)) := by
  unfold nnf
  rw [if_pos hi, abs_sq, alg_sq]
theorem an_eq : ∀ i, i ≤ n → ((AN (nnf n far T u g) i : Nat) : Int) = far * far * (u * u) * sumN (fun j => T j * g j * (T j * g j)) i
  | 0, _ => by simp [AN, sumN]
  | i + 1, hi => by
    have h1 := an_eq i (by omega)
    have h2 := nnf_sq (far := far) (T := T) (u := u) (g := g) (show i < n by omega)
    show ((AN (nnf n far T u g) i + nnf n far T u g i * nnf n far T u g i : Nat) : Int) = far * far * (u * u) * (sumN (fun j => T j * g j * (T j * g j)) i + T i * g i * (T i * g i))
    rw [Int.natCast_add, Int.natCast_mul, h1, h2, Int.mul_add]
theorem cast_inj {a b : Nat} (h : ((a : Nat) : Int) = (b : Nat)) : a = b := Int.ofNat.inj h
/-- the sight in the line's own numbers -/
theorem q_l (H : LNS n far T P B) {l : Nat → Int} (hP : ∀ i : Nat, i < n → P i = l i * T i) : sumN (fun j => P j * g j) n = sumN (fun i => l i * (T i * g i)) n :=
  sumN_congr fun i hi => by rw [hP i hi, Int.mul_assoc]
theorem WF.alike_S (H : WF n far T P B u v sl un rs g) (tf : TF n far T P u v g M S q) (hA : Alike n (fun i => B i) (fun i => g i)) : Dy S (u * (q.natAbs : Int)) 1071 := by
  obtain ⟨l, hl, hP⟩ := H.ln.ln
  obtain ⟨y, hy⟩ := alike_y hl hA
  have hq : q = y * (far * far) := by rw [tf.qe, q_l H.ln hP]; exact alike_sight hl hy
  have hf := H.ln.nb
  have hu := H.ub.b
  have key := tf.sq.2 (fun j => (far * u * y).natAbs * cN j) fun j hj => cast_inj (by
    rw [an_eq j hj, alike_sq hl hy hj, Int.natCast_mul, Int.natCast_mul]
    have e := Int.natAbs_mul_self (a := far * u * y)
    have e2 : far * far * (u * u) * (y * (cN j : Int) * (y * (cN j : Int))) = far * u * y * (far * u * y) * ((cN j : Int) * (cN j : Int)) := by ac_rfl
    rw [e2, ← e, Int.natCast_mul]
    ac_rfl)
  have e3 : (((far * u * y).natAbs * cN n : Nat) : Int) = u * (q.natAbs : Int) := by
    rw [Int.natCast_mul, cN_m hl, hq, Int.natAbs_mul, Int.natAbs_mul, Int.natAbs_mul, Int.natAbs_mul, Int.natCast_mul, Int.natCast_mul, Int.natCast_mul, Int.natCast_mul, Int.natAbs_of_nonneg (show 0 ≤ far by omega), Int.natAbs_of_nonneg (show 0 ≤ u by omega)]
    ac_rfl
  rwa [e3] at key
theorem dq (qf : QF q) : Dy (Float64.abs (Float64.ofInt q)) (q.natAbs : Int) 1074 := dy_abs (dy_ofInt (by have := qf.kb; omega))
theorem WF.alike_told (H : WF n far T P B u v sl un rs g) (tf : TF n far T P u v g M S q) (qf : QF q) (hA : Alike n (fun i => B i) (fun i => g i)) : Dy (Float64.div S (Float64.abs (Float64.ofInt q))) u 1071 := by
  have hu := H.ub.b
  exact dy_div (H.alike_S tf hA) (dq qf) (by have := qf.k0; omega) (by omega) rfl (by decide)
theorem WF.an_b (H : WF n far T P B u v sl un rs g) : AN (nnf n far T u g) n ≤ 2 ^ 48 := by
  have h1 := an_bnd (nnf_b H) n
  have h2 := H.ln.nb.2.1
  omega
theorem near16 {S : UInt64} {A e : Nat} (h : Near S A e) (he : e ≤ 16) : Near S A 16 := by
  obtain ⟨r, hr, p1, p2⟩ := h
  have h1 : A * 2 ^ 142 * e ≤ A * 2 ^ 142 * 16 := Nat.mul_le_mul_left _ he
  exact ⟨r, hr, Nat.le_trans p1 (Nat.add_le_add_left h1 _), Nat.le_trans p2 (Nat.add_le_add_left h1 _)⟩
theorem gap_cast {q u far A Z : Int} (hA : A = far * far * (u * u) * Z) (h : q * q * 1073741825 ≤ far * far * Z * 1073741824) : q * q * (u * u) * 1073741825 ≤ A * 1073741824 := by
  have h1 := Int.mul_le_mul_of_nonneg_right h (sq_nn u)
  rw [hA]
  have e1 : q * q * (u * u) * 1073741825 = q * q * 1073741825 * (u * u) := by ac_rfl
  have e2 : far * far * (u * u) * Z * 1073741824 = far * far * Z * 1073741824 * (u * u) := by ac_rfl
  rw [e1, e2]
  exact h1
theorem WF.gap_told (H : WF n far T P B u v sl un rs g) (tf : TF n far T P u v g M S q) (qf : QF q) (hA : ¬ Alike n (fun i => B i) (fun i => g i)) : ∃ b : Int, Fv (Float64.div S (Float64.abs (Float64.ofInt q))) b ∧ u * 2 ^ 1071 < b := by
  obtain ⟨l, hl, hP⟩ := H.ln.ln
  have hq := tf.qe
  rw [q_l H.ln hP] at hq
  have hg := gap hl H.kd hA
  rw [← hq] at hg
  have hu := H.ub.b
  have h1 := gap_cast (an_eq (u := u) n (Nat.le_refl _)) hg
  have h2 : q.natAbs * q.natAbs * (u.toNat * u.toNat) * 1073741825 ≤ AN (nnf n far T u g) n * 1073741824 := by
    have e1 := Int.natAbs_mul_self (a := q)
    have e2 : ((u.toNat : Nat) : Int) = u := Int.toNat_of_nonneg (by omega)
    have : ((q.natAbs * q.natAbs * (u.toNat * u.toNat) * 1073741825 : Nat) : Int) ≤ ((AN (nnf n far T u g) n * 1073741824 : Nat) : Int) := by
      rw [Int.natCast_mul, Int.natCast_mul, e1, Int.natCast_mul u.toNat, e2, Int.natCast_mul]
      exact h1
    exact Int.ofNat_le.mp this
  have hn := H.ln.nb.2.1
  have hb := H.an_b
  have hk := qf.kb
  have hk0 := qf.k0
  obtain ⟨b, hb1, hb2⟩ := told_gt (u := u.toNat) (near16 tf.sq.1 (by omega)) (by omega) (by omega) (by omega) (by omega) h2
  refine ⟨b, hb1, ?_⟩
  have e : ((u.toNat * 2 ^ 71 * 2 ^ 1000 : Nat) : Int) = u * 2 ^ 1071 := by
    rw [Nat.mul_assoc, ← Nat.pow_add, Int.natCast_mul, Int.toNat_of_nonneg (show 0 ≤ u by omega)]
    rfl
  rwa [e] at hb2
/-- the spread of the quotient, whatever the weights -/
theorem WF.told (H : WF n far T P B u v sl un rs g) (tf : TF n far T P u v g M S q) (qf : QF q) : ∃ b : Int, Fv (Float64.div S (Float64.abs (Float64.ofInt q))) b ∧ (Alike n (fun i => B i) (fun i => g i) → b = u * 2 ^ 1071) ∧ (¬ Alike n (fun i => B i) (fun i => g i) → u * 2 ^ 1071 < b) ∧ 2 ^ 60 ≤ b := by
  have hu := H.ub.b
  have hbig : (2 : Int) ^ 60 ≤ u * 2 ^ 1071 := by
    have h1 : (1 : Int) * 2 ^ 1071 ≤ u * 2 ^ 1071 := Int.mul_le_mul_of_nonneg_right hu.1 (Int.le_of_lt (pow_pos_int _))
    have h2 : (2 : Int) ^ 60 ≤ 1 * 2 ^ 1071 := by decide +kernel
    exact Int.le_trans h2 h1
  by_cases hA : Alike n (fun i => B i) (fun i => g i)
  · exact ⟨_, H.alike_told tf qf hA, fun _ => rfl, fun h => absurd hA h, hbig⟩
  · obtain ⟨b, h1, h2⟩ := H.gap_told tf qf hA
    exact ⟨b, h1, fun h => absurd h hA, fun _ => h2, Int.le_of_lt (Int.lt_of_le_of_lt hbig h2)⟩
theorem TF.mean (tf : TF n far T P u v g M S q) (sb : SLB v) (qf : QF q) : Dy (Float64.div M (Float64.ofInt q)) v 1071 := by
  have h1 := sb.lo
  have h2 := sb.hi
  exact dy_div tf.dm (dy_ofInt (by have := qf.kb; omega)) qf.k0 (by omega) rfl (by decide)
theorem TF.mean2 (tf : TF n far T P u v g M S q) (sb : SLB v) (qf : QF q) : Dy (Float64.div M (hf2 q)) v 1072 := by
  have h1 := sb.lo
  have h2 := sb.hi
  exact dy_div tf.dm qf.dh qf.k0 (by omega) rfl (by decide)
theorem TF.mean22 (tf : TF n far T P u v g M S q) (sb : SLB v) (qf : QF q) : Dy (Float64.mul (Float64.div M (Float64.ofInt q)) (Float64.ofInt 2)) (v * 2) 1071 := by
  have h1 := sb.lo
  have h2 := sb.hi
  exact dy_wi (tf.mean sb qf) (A := 2 ^ 20) (B := 2) (by omega) (by decide) (by decide) (by decide) (by decide)
theorem twice_v (v : Int) : v * 2 ^ 1072 = v * 2 * 2 ^ 1071 := by
  rw [Int.mul_assoc, ← Int.pow_succ']
theorem TF.two (tf : TF n far T P u v g M S q) (sb : SLB v) (qf : QF q) : Fv (Float64.div M (hf2 q)) (v * 2 * 2 ^ 1071) := by
  have := tf.mean2 sb qf
  unfold Dy at this
  rwa [twice_v] at this
theorem WF.sd2 (H : WF n far T P B u v sl un rs g) (tf : TF n far T P u v g M S q) (qf : QF q) {b : Int} (hb : Fv (Float64.div S (Float64.abs (Float64.ofInt q))) b) (h60 : 2 ^ 60 ≤ b) :
    Fv (Float64.div S (Float64.abs (hf2 q))) (2 * b) ∧ Fv (Float64.mul (Float64.div S (Float64.abs (Float64.ofInt q))) (Float64.ofInt 2)) (2 * b) := by
  obtain ⟨r, hr, p1, p2⟩ := tf.sq.1
  have hA := H.an_b
  have hk := qf.kb
  have hk0 := qf.k0
  have hn := H.ln.nb.2.1
  have hr1 : r ≤ 2 ^ 103 := by
    rcases Nat.lt_or_ge r (2 ^ 103) with h1 | h1
    · exact Nat.le_of_lt h1
    · exfalso
      have := sq_mul_le h1
      have h16 : AN (nnf n far T u g) n * 2 ^ 142 * (4 * n) ≤ 2 ^ 48 * 2 ^ 142 * 16 := Nat.mul_le_mul (Nat.mul_le_mul_right _ hA) (by omega)
      have h17 : AN (nnf n far T u g) n * 2 ^ 142 * 2 ^ 37 ≤ 2 ^ 48 * 2 ^ 142 * 2 ^ 37 := Nat.mul_le_mul_right _ (Nat.mul_le_mul_right _ hA)
      have h18 := Nat.le_trans p1 (Nat.add_le_add h17 h16)
      have h19 := Nat.mul_le_mul_right (2 ^ 37) this
      exact absurd (Nat.le_trans h19 h18) (by decide +kernel)
  have hr0 : 0 < r := by
    rcases Nat.eq_zero_or_pos r with h | h
    · exfalso
      subst h
      have h0 : Fv S 0 := by
        have := hr
        unfold Dy at this
        simpa using this
      have hd : Dy (Float64.div S (Float64.abs (Float64.ofInt q))) 0 1071 := dy_div (c := 0) (b := q.natAbs) (j := 1071) (by rw [Int.zero_mul]; exact dy_zero h0 _) (dq qf) (by omega) (by decide) rfl (by decide)
      have := fv_uniq hb (zero_dy hd)
      omega
    · exact h
  have h1 : Fv (Float64.div S (Float64.abs (hf2 q))) (2 * b) := div_half hr (dq qf) (dy_abs qf.dh) (by omega) (by omega) hr0 hr1 hb h60
  refine ⟨h1, ?_⟩
  obtain ⟨z, k, e, hz, hkk⟩ := fv_form h1
  have h2 : Fv (Float64.ofInt 2) (2 * 2 ^ 1074) := dy_ofInt (i := 2) (by decide)
  obtain ⟨w, hw, ew⟩ := mul_exact (q := z) (j := k) hb h2 (by
    have e1 : b * (2 * 2 ^ 1074) = 2 ^ 1074 * (2 * b) := by ac_rfl
    rw [e1, Int.natAbs_mul, e]
    rfl) hz hkk
  have : w = 2 * b := by
    refine Int.eq_of_mul_eq_mul_right (Int.ne_of_gt (pow_pos_int 1074)) ?_
    rw [ew]; ac_rfl
  rwa [this] at hw
end Mine
namespace Mine
variable {n : Nat} {far : Int} {T P B : Int → Int} {u v : Int} {sl un : UInt64} {rs : List Rd} {g : Int → Int} {M S : UInt64} {q : Int}
theorem TF.fvS (tf : TF n far T P u v g M S q) : ∃ s, Fv S s := by
  obtain ⟨⟨r, hr, _⟩, _⟩ := tf.sq
  exact ⟨_, hr⟩
end Mine

end W2T
section EQ2
open PySem PySem.W PySem.Calls PyProof.Rows
set_option Elab.async false
set_option linter.unusedVariables false
namespace Mine
open PySem.SeqAt
section
variable {A : Around} {s : Shared}
theorem isSame_float {M : Model} {E : Value → Shared → Prop} {y z : UInt64} {u v : Tok} {P : Prop} {Q : Bool → Shared → Prop}
    (h0 : (u == 0 || v == 0) = false) (hb : NoneBooked s.heap) (hne : (u == v) = true → P) (heq : y = z → P) (hq : ∀ b, (b = true → P) → Q b s) : wpAny M A (isSame (.float y u) (.float z v)) Q E s := by
  show wpAny M A (isSame.created (y == z && !Float64.isNaN y) u v) Q E s
  unfold isSame.created
  refine wpAny_ite ?_
  split
  · rename_i h; rw [h0] at h; exact absurd h Bool.false_ne_true
  refine wpAny_ite ?_
  split
  · rename_i h; exact wpAny_pure (hq _ fun _ => hne h)
  refine wpAny_ite ?_
  split
  · exact wpAny_pure (hq _ fun h => absurd h Bool.false_ne_true)
  rename_i he
  have hyz : y = z := by
    have : (y == z && !Float64.isNaN y) = true := by
      cases h : (y == z && !Float64.isNaN y) with
      | true => rfl
      | false => rw [h] at he; exact absurd rfl he
    exact eq_of_beq (Bool.and_eq_true_iff.mp this).1
  refine wpAny_bind (wpAny_sharingNotTold_none hb ?_)
  first | rw [if_neg Bool.false_ne_true] | simp only [Bool.false_eq_true, if_false]
  refine wpAny_bind (wpAny_sharingNotTold_none hb ?_)
  first | rw [if_neg Bool.false_ne_true] | simp only [Bool.false_eq_true, if_false]
  exact wpAny_bind (wpAny_rule (wpAny_bind (wpAny_askSetting (wpAny_pure (hq _ fun _ => heq hyz)))))
theorem eqAt_float {x y : UInt64} {a b : Int} {t u : Tok} (hx : Fv x a) (hy : Fv y b) (ht : 0 < t) (hu : 0 < u) (htu : (t == u) = true → a = b) (hb : NoneBooked s.heap) : EqAt A s (.float x t) (.float y u) (decide (a = b)) := fun prog w E Q h => by
  have key : x = y → a = b := fun e => by subst e; exact fv_uniq hx hy
  unfold eqBool
  refine wpAny_holding ?_
  refine wpAny_ite_split (fun hab => ?_) (fun _ => ?_)
  · have e : x = y := by have := eq_of_beq hab; injection this
    rw [decide_eq_true (key e)] at h
    exact wpAny_bind (wpAny_rule (wpAny_pure h))
  · show wpAny _ _ (isSame (.float x t) (.float y u) >>= _) _ _ _
    refine wpAny_bind (isSame_float (P := a = b) ?_ hb htu key fun c hc => ?_)
    · have h1 : (t == 0) = false := by simp; exact Nat.ne_of_gt ht
      have h2 : (u == 0) = false := by simp; exact Nat.ne_of_gt hu
      rw [h1, h2]; rfl
    refine wpAny_ite_split (fun hc1 => ?_) (fun hc1 => ?_)
    · rw [decide_eq_true (hc hc1)] at h
      exact wpAny_pure h
    · refine wpAny_bind ?_
      show wpAny _ _ (compareOp .Eq (.float x t) (.float y u)) _ _ _
      refine AutoFloatOps.eq_0 ?_
      rw [cmp_eq hx hy]
      exact wpAny_truthy_bool h
theorem eqAt_f1 {x y : UInt64} {a : Int} {t u : Tok} (hx : Fv x a) (hy : Fv y a) (ht : 0 < t) (hu : 0 < u) (hb : NoneBooked s.heap) : EqAt A s (.float x t) (.float y u) true := by
  have := eqAt_float (A := A) hx hy ht hu (fun _ => rfl) hb
  rwa [decide_eq_true rfl] at this
end
theorem noneBooked {w : World} {h₀ h : Heap} {L : Addr} {m : Str → Option Value} (X : (K2 w.params).In h₀) (F : Fr h₀ L h m) : NoneBooked h := by
  have := F.keep _ _ (X 2 _ rfl)
  refine ⟨_, ⟨_, _, _, this, rfl, ?_, fun _ => rfl⟩, ?_⟩
  · intro e he
    simp only [List.mem_toArray, List.mem_cons, List.not_mem_nil, or_false] at he
    rcases he with rfl | rfl | rfl | rfl | rfl | rfl | rfl | rfl | rfl | rfl <;> exact ⟨_, _, rfl⟩
  · rfl
theorem isList_news {h₀ h : Heap} {L l : Addr} {news : List (Addr × Obj)} {vs : Array Value} {n : Nat} (N : News h₀ L h news) (hm : (l, W.listOf vs n) ∈ news) : h.IsList l vs := ⟨_, (N _ hm).1, rfl, _, rfl⟩
/-- two lists of four floats, alike place by place -/
theorem ne_f4 {prog : Program} {w : World} {A : Around} {E : Value → Shared → Prop} {s : Shared} {h₀ : Heap} {L : Addr} {m : Str → Option Value} {news : List (Addr × Obj)} {Q : Value → Shared → Prop} {l k : Addr} {x1 x2 x3 x4 y1 y2 y3 y4 : UInt64} {u1 u2 u3 u4 v1 v2 v3 v4 : Tok} {a b c d : Int}
    (F : Fr h₀ L s.heap m) (N : News h₀ L s.heap news) (X : (K2 w.params).In h₀) (h0 : (l, W.listOf #[Value.float x1 u1, Value.float x2 u2, Value.float x3 u3, Value.float x4 u4] 0) ∈ news) (g0 : (k, W.listOf #[Value.float y1 v1, Value.float y2 v2, Value.float y3 v3, Value.float y4 v4] 0) ∈ news)
    (a1 : Fv x1 a) (a2 : Fv y1 a) (b1 : Fv x2 b) (b2 : Fv y2 b) (c1 : Fv x3 c) (c2 : Fv y3 c) (d1 : Fv x4 d) (d2 : Fv y4 d) (p1 : 0 < u1) (p2 : 0 < u2) (p3 : 0 < u3) (p4 : 0 < u4) (q1 : 0 < v1) (q2 : 0 < v2) (q3 : 0 < v3) (q4 : 0 < v4)
    (hu : A.units < cLine) (h : Q (.bool false) s) : wpAny (model prog w) A (compareOp .NotEq (.ref l) (.ref k)) Q E s := by
  have hb := noneBooked X F
  have := RcNeAt.lists (A := A) (isList_news N h0) (isList_news N g0) rfl hu (e := fun _ => true) (fun j h1' h2' => match j, h1', h2' with
    | 0, _, _ => eqAt_f1 a1 a2 p1 q1 hb
    | 1, _, _ => eqAt_f1 b1 b2 p2 q2 hb
    | 2, _, _ => eqAt_f1 c1 c2 p3 q3 hb
    | 3, _, _ => eqAt_f1 d1 d2 p4 q4 hb)
  exact this prog w E Q h
/-- two lists of three truths, alike place by place -/
theorem ne_b3 {prog : Program} {w : World} {A : Around} {E : Value → Shared → Prop} {s : Shared} {h₀ : Heap} {L : Addr} {news : List (Addr × Obj)} {Q : Value → Shared → Prop} {l k : Addr} {a b c a' b' c' : Bool} (N : News h₀ L s.heap news)
    (h0 : (l, W.listOf #[Value.bool a, Value.bool b, Value.bool c] 0) ∈ news) (g0 : (k, W.listOf #[Value.bool a', Value.bool b', Value.bool c'] 0) ∈ news) (e1 : a = a') (e2 : b = b') (e3 : c = c') (hu : A.units < cLine) (h : Q (.bool false) s) : wpAny (model prog w) A (compareOp .NotEq (.ref l) (.ref k)) Q E s := by
  subst e1 e2 e3
  have := RcNeAt.lists (A := A) (isList_news N h0) (isList_news N g0) rfl hu (e := fun _ => true) (fun j h1' h2' => match j, h1', h2' with
    | 0, _, _ => by have := EqAt.bool_bool (A := A.in1) (s := s) a a; rwa [beq_self_eq_true] at this
    | 1, _, _ => by have := EqAt.bool_bool (A := A.in1) (s := s) b b; rwa [beq_self_eq_true] at this
    | 2, _, _ => by have := EqAt.bool_bool (A := A.in1) (s := s) c c; rwa [beq_self_eq_true] at this)
  exact this prog w E Q h
end Mine

end EQ2
section W2U
open PySem PySem.W PySem.Calls PyProof.Rows
set_option linter.unusedVariables false
set_option Elab.async false
set_option exponentiation.threshold 3000
namespace Mine
/-- a comprehension over a range whose elements are truths -/
theorem rest_bools {prog : Program} {w : World} {A : Around} {h₀ : Heap} {L : Addr} {m : Str → Option Value} {env : Env} {elt : PySem.Expr} {x : Str} {scope : Scope} {cl : List (Str × Addr)} {s : Shared} {Fin : List Value → List (Addr × Obj) → Prop} {news : List (Addr × Obj)} {n : Nat} (b : Int → Bool)
    (turn : ∀ k t I oI C oC D m₂ ys h tk (E' : Value → Shared → Prop), 0 ≤ k → k < 0 + (n : Int) → LCg.NsObj oC m₂ → m₂ x = some (.int k t) → Fr h₀ L h m → News h₀ L h ((I, oI) :: (C, oC) :: (D, LCg.lst ys) :: news) → LCg.Off3 I C D news → ((@Ne Nat I C) ∧ (@Ne Nat I D) ∧ (@Ne Nat C D)) →
      wpAny (model prog w) A (eval elt (compEnvC scope cl C env)) (LCg.CompEnd h₀ L m { s with heap := h, toks := tk } I oI C oC D (LCg.lst ys) (fun _ => True) (fun y news' => y = .bool (b k) ∧ news' = news)) E' { s with heap := h, toks := tk })
    (fin : ∀ ys, LSm.BoolsAre ys ((rangeKs 0 n).map b) → Fin ys news) :
    LCg.CompRest prog w A h₀ L m env elt x scope cl s (fun _ => True) (fun i v => ∃ t, v = .int (0 + (i : Int)) t) Fin n 0 [] news := by
  have app : ∀ {vs vs' : List Value} {bs bs' : List Bool}, LSm.BoolsAre vs bs → LSm.BoolsAre vs' bs' → LSm.BoolsAre (vs ++ vs') (bs ++ bs') := by
    intro vs vs' bs bs' h h'
    induction h with
    | nil => exact h'
    | cons b _ ih => exact .cons b ih
  have key : ∀ (j i : Nat) (ys : List Value), i + j = n → LSm.BoolsAre ys ((rangeKs 0 i).map b) → LCg.CompRest prog w A h₀ L m env elt x scope cl s (fun _ => True) (fun i v => ∃ t, v = .int (0 + (i : Int)) t) Fin j i ys news := by
    intro j
    induction j with
    | zero =>
      intro i ys hi hy
      have e : i = n := by omega
      subst e
      exact LCg.CompRest.zero (fin ys hy)
    | succ j ih =>
      intro i ys hi hy
      refine LCg.CompRest.succ ?_
      intro v I oI C oC D m₂ h tk E' hv hC hx F N off ne
      obtain ⟨t, rfl⟩ := hv
      refine wpAny_mono (turn (0 + (i : Int)) t I oI C oC D m₂ ys h tk E' (by omega) (by omega) hC hx F N off ne) (fun y s₂ hq => ?_) fun _ _ e => e
      obtain ⟨h', tk', nw, e, F', N', off', hS, hy', hn⟩ := hq
      subst hn
      subst hy'
      refine ⟨h', tk', nw, e, F', N', off', hS, ih (i + 1) _ (by omega) ?_⟩
      have e2 : (rangeKs 0 (i + 1)).map b = (rangeKs 0 i).map b ++ [b (0 + (i : Int))] := by
        unfold rangeKs
        rw [List.range_succ, List.map_append, List.map_append]
        rfl
      rw [e2]
      exact app hy (.cons _ .nil)
  exact key n 0 [] (by omega) .nil
variable {n : Nat} {far : Int} {T P B : Int → Int} {u v : Int} {sl un : UInt64} {rs : List Rd} {g : Int → Int} {M S : UInt64} {q b : Int}
abbrev alB (B g : Int → Int) (k : Int) : Bool := g (0 + k) * B (0 + 0) == g (0 + 0) * B (0 + k)
theorem al_iff : (List.map (alB B g) (rangeKs 0 n)).all id = true ↔ Alike n (fun i => B i) (fun i => g i) := by
  rw [List.all_map, List.all_eq_true]
  constructor
  · intro h i hi
    have hm : ((i : Int)) ∈ rangeKs 0 n := List.mem_map.mpr ⟨i, List.mem_range.mpr hi, Int.zero_add _⟩
    have := h _ hm
    simp only [Function.comp, id, alB, beq_iff_eq, Int.zero_add] at this
    exact this
  · intro h k hk
    obtain ⟨h1, h2⟩ := mem_rangeKs hk
    obtain ⟨i, rfl, hi⟩ := of_ix h1 h2
    have := h i hi
    simp only [Function.comp, id, alB, beq_iff_eq, Int.zero_add]
    exact this
theorem end1 (tf : TF n far T P u v g M S q) (sb : SLB v) (qf : QF q) (d : Dy sl v 1071) : (Float64.cmp (Float64.div M (Float64.ofInt q)) sl == some Ordering.eq) = true := by
  rw [cmp_eq (tf.mean sb qf) d]
  exact decide_eq_true rfl
theorem end2 {x : UInt64} (d : Dy un u 1071) (hb : Fv x b) (hA : Alike n (fun i => B i) (fun i => g i) → b = u * 2 ^ 1071) (hN : ¬ Alike n (fun i => B i) (fun i => g i) → u * 2 ^ 1071 < b) :
    (Float64.cmp x un == some Ordering.gt) = !((List.map (alB B g) (rangeKs 0 n)).all id) ∧ (Float64.cmp x un == some Ordering.eq) = (List.map (alB B g) (rangeKs 0 n)).all id := by
  rw [cmp_gt hb d, cmp_eq hb d]
  by_cases h : Alike n (fun i => B i) (fun i => g i)
  · rw [al_iff.mpr h, hA h]
    exact ⟨decide_eq_false (Int.lt_irrefl _), decide_eq_true rfl⟩
  · have e : (List.map (alB B g) (rangeKs 0 n)).all id = false := Bool.eq_false_iff.mpr fun e => h (al_iff.mp e)
    rw [e]
    exact ⟨decide_eq_true (hN h), decide_eq_false (Int.ne_of_gt (hN h))⟩
end Mine

end W2U
section WALK2
open PySem PySem.W PySem.Calls PyProof.Rows
set_option Elab.async false
set_option linter.unusedVariables false
namespace Mine
local macro_rules | `(tactic| cells_open $x:ident) => `(tactic| (rename News _ _ _ _ => hN; revert hN; refine kc_elim (P := fun c => News _ _ _ c → _) $x ?_; clear $x; intros))
local macro_rules | `(tactic| k_cells $x:ident) => `(tactic| (rename News _ _ _ _ => hN; revert hN; refine kc_elim (P := fun c => News _ _ _ c → _) $x ?_; clear $x; intros))
local macro_rules | `(tactic| kri_idx) => `(tactic| first | with_reducible assumption | exact idx_n (by with_reducible assumption) | exact idx63 (by with_reducible assumption) (by with_reducible assumption) (by with_reducible assumption) | exact Int.le_refl _ | exact n_pos (by with_reducible assumption) | decide)
local macro_rules | `(tactic| walk_at $s:str) => `(tactic| k_extra $s)
theorem walkT2.tw12018374183745197912 : True := trivial
theorem walkT2.tw10749648227472136904 : True := trivial
theorem walkT2.tw17699476320425303637 : True := trivial
set_option Elab.async true in
set_option maxRecDepth 100000 in
set_option maxHeartbeats 0 in
theorem walkT2 : T2 := by
  unfold T2
  k_with_none
  k_with "NELIT" => ((try dsimp only); first | with_reducible assumption | (refine Ne.symm ?_; with_reducible assumption) | (refine neN ?_; (try dsimp only); (repeat (refine succ_ne ?_)); first | exact ne_add | exact ne_add'))
  k_with "KEEP" => first | exact Keep.nil | exact Keep.obj (by rfl) (by walk_at "KEEP") | exact Keep.cell (by walk_at "NELIT") (by walk_at "KEEP") | exact Keep.drop (by walk_at "KEEP")
  k_with "storeName" => (k_here; k_dflt (refine' storeK_C (by with_reducible assumption) (by with_reducible assumption) (by rfl) (by k_mem) (by with_reducible assumption) (by walk_at "KEEP") ?_ (by rfl) (by rfl)); intro h' o' F' N' d'; (try dsimp only at N'); (try k_sweep))
  k_with "storeName" => (k_here; (first | (with_reducible show wpAny _ _ (storeName _ _ (Value.int (HAdd.hAdd _ _) _)) _ _ _) | (with_reducible show wpAny _ _ (storeName _ _ (Value.int (ite _ _ _) _)) _ _ _)); (refine store_gen ?_; intro v' t' hv'))
  k_with "storeName" => (k_here; (with_reducible show wpAny _ _ (storeName _ _ (Value.float (m8 _) _)) _ _ _); (refine store_genF (by first | exact ⟨by assumption, by assumption⟩ | exact unit_b (unit_bnd _)) ?_; intro x' t' dx'))
  k_with "storeName" => (k_here; (with_reducible show wpAny _ _ (storeName _ _ (Value.int (List.sum _) _)) _ _ _); (refine store_gen ?_; intro v' t' hv'); k_dflt (refine' storeX_L (by k_asm) (by k_asm) ?_ (by rfl) (by rfl)); intro h' F' N'; (try k_sweep))
  k_with "execs cons" => (k_here; (repeat (rename (_ < _) ∧ _ => hC; clear hC)); (repeat (rename (_ ≠ _) ∧ _ => hC; clear hC)); (first | ((with_reducible refine toks_genP (by (first | assumption | exact Nat.zero_lt_succ _)) ?_); intro tk' hk') | ((with_reducible refine toks_gen1 ?_); intro tk')); (with_reducible refine wpAny_execs_cons ?_); (try dsimp only))
  k_with "execs nil" => (k_here; (rename GoOn => gon); (first | ((with_reducible refine toks_genP (by (first | assumption | exact Nat.zero_lt_succ _)) ?_); intro tk' hk') | ((with_reducible refine toks_gen1 ?_); intro tk')); (with_reducible refine wpAny_execs_nil ?_); (try dsimp only))
  k_with "newList" => (k_here; k_dflt (refine newList_q (by k_asm) (by k_asm) (by size_fits) ?_); intro l' h' F' N'; (try k_sweep))
  k_with "newTuple" => (k_here; k_dflt (refine newTuple_q (by k_asm) (by k_asm) (by kmk_size) ?_); intro l' h' F' N'; (try k_sweep))
  k_with "exec For Name Name cons nil" => (k_here; (rename Fr _ _ _ _ => lF'); (with_unfolding_all refine' For_turns lF' ?_; k_whole))
  k_with "exec For Name List cons nil" => (k_here; (rename Fr _ _ _ _ => lF'); (with_unfolding_all refine' For_turns lF' ?_; k_whole))
  k_with "pyIter ref" => (k_here; (with_reducible show wpAny _ _ (pyIter (Value.ref _)) (fun it s₂ => TurnsAt _ _ _ _ _ _ _ _ _ it s₂) _ _); refine Stop.of ?_)
  k_with "exec If" => (k_here; (with_reducible show wpAny _ _ (exec (Stmt.If (PySem.Expr.Compare (PySem.Expr.Name _ _) _ _ _) _ _ _) _) _ _ _); refine Stop.of ?_)
  k_with "CompSrc" => (k_here; (rename GoOn => gon); (refine LCg.CompSrc.range (by rfl) (by k_asm) (by k_asm) (by with_reducible assumption) (small_many (by with_reducible assumption) (by with_reducible assumption)) (rangeSize_nat _ _) (size_many (by with_reducible assumption)) ?_); intro g'; (refine' kcf_range _ (fun k' t' I' oI' C' oC' D' m' ys' h' tk' E' hlo' hhi' hC' hx' F' N' off' ne' hMark' => ?_) ?_); kcf_last)
  k_with "CompSrc" => (k_here; (rename LNS _ _ _ _ _ => lnX); (refine LCg.CompSrc.ledger (by rfl) (by k_asm) (by k_asm) (by k_mem) (size_ints (by with_reducible assumption) (by with_reducible assumption)) ?_); intro g'; (refine' kcf_list _ (by with_reducible assumption) (fun k' t' I' oI' C' oC' D' m' ys' h' tk' E' hk' hC' hx' F' N' off' ne' hMark' => ?_) ?_); kcf_last)
  k_with "CompSrc" => (k_here; (with_reducible show LCg.CompSrc _ _ _ _ _ _ _ (PySem.Expr.Call (PySem.Expr.Name _ _) _ _ _) _ _ _ _ _ _); refine Stop.of ?_)
  k_with "CompSrc" => (k_here; (with_reducible show LCg.CompSrc _ _ _ _ _ _ _ (PySem.Expr.Compare _ _ _ _) _ _ _ _ _ _); refine Stop.of ?_)
  k_with "CompSrc" => (k_here; (with_reducible show LCg.CompSrc _ _ _ _ _ _ _ (PySem.Expr.BinOp (PySem.Expr.Subscript _ _ _) _ (PySem.Expr.Call _ _ _ _) _) _ _ _ _ _ _); (fail_if_success (rename AL => alX)); refine Stop.of ?_)
  k_with "CompEnd" => (refine LCg.CompEnd.intro (by with_reducible assumption) (by with_reducible assumption) _ (fun p hp => hp) (by with_reducible assumption) (by first | exact True.intro | lcg_src) ?_)
  k_with "FinA" => ((unfold LCg.FinA); intro D' h' tk' F' N' o1'; clear o1'; (try dsimp only))
  k_with "FinE" => ((unfold LCg.FinE); intro D' h' tk' F' N' o1'; clear o1'; (try dsimp only))
  k_with "subscriptTail List" => (k_here; (with_reducible show wpAny _ _ (subscriptTail (PySem.Expr.List _ _) _ (Value.ref _) (Value.int _ _)) _ _ _); k_dflt (refine' tab4 (by k_asm) (by k_mem) (idx4 (by with_reducible assumption) (by with_reducible assumption) (by with_reducible assumption)) ?_ (by with_unfolding_all rfl)); intro t9)
  k_with "subscriptTail List" => (k_here; (fail_if_success (rename GoOn => gon)); refine Stop.of ?_)
  k_with "subscriptTail Name Name ref int" => (k_here; (rename GoOn => gon); kri_at)
  k_with "subscriptTail Name Constant ref int" => (k_here; (rename WF _ _ _ _ _ _ _ _ _ _ _ => wfX); kri_at)
  k_with "binaryOp Mult int int" => (k_here; (with_reducible refine mul_int ?_ (by first | exact PySem.IntMulOk.of_left (by decide) | exact PySem.IntMulOk.of_right (by decide) | exact PySem.IntMulOk.of_right (t_bits _) | exact PySem.IntMulOk.of_left l_bits | exact PySem.IntMulOk.of_left (n7_bits _) | (rename ElF _ _ _ _ _ => elf; exact PySem.IntMulOk.of_left (elf.t _ (by with_reducible assumption) (by with_reducible assumption))))))
  k_with "binaryOp Mult int int" => (k_here; (rename WF _ _ _ _ _ _ _ _ _ _ _ => wfX); (with_reducible refine mul_int ?_ (by first | exact wfX.gok (by with_reducible assumption) (by with_reducible assumption) | exact wfX.gok0)))
  k_with "binaryOp FloorDiv int int" => (k_here; (rename GoOn => gon); (with_reducible refine floordiv_int (by first | exact pw_ne (by decide) | exact t_ne _) ?_ (by first | exact Or.inl (PyProof.noPylong_small (pw_small (by decide) (by with_reducible assumption) (by with_reducible assumption) (by with_reducible assumption))) | exact Or.inl (PyProof.noPylong_of_log2 (Nat.lt_trans (t_log _) (by decide))))))
  k_with "binaryOp Pow int int" => (k_here; (rename GoOn => gon); (with_reducible refine pow_int_small (by with_reducible assumption) (idx_big (by with_reducible assumption) (by with_reducible assumption) (by with_reducible assumption)) (by decide) ?_))
  k_with "binaryOp Mult float int" => (k_here; (rename ElF _ _ _ _ _ => elf); (with_reducible refine mul_fi_fits (elf.p _ (by with_reducible assumption) (by with_reducible assumption)) ?_))
  k_with "binaryOp Mult int float" => (k_here; (rename ElF _ _ _ _ _ => elf); (with_reducible refine mul_if_fits (elf.tf _ (by with_reducible assumption) (by with_reducible assumption)) ?_))
  k_with "binaryOp Div int int" => (k_here; (with_reducible show wpAny _ _ (binaryOp Operator.Div (Value.int _ _) (Value.int 8 _)) _ _ _); k_dflt (refine div8 (by rfl) (by first | omega | exact unit_fit (unit_bnd _)) ?_); (try dsimp only))
  k_with "binaryOp Div int int" => (k_here; (rename QF _ => qfX); (with_reducible show wpAny _ _ (binaryOp Operator.Div (Value.int _ _) (Value.int 2 _)) _ _ _); k_dflt (refine div2 (by rfl) qfX.k62 ?_); (try dsimp only))
  k_with "call ref" => (k_here; (with_reducible show wpAny _ _ (call (Value.ref 281) _ _) _ _ _); k_dflt (refine' near_c (by k_asm) (by k_asm) (by k_asm) (by k_asm) rfl rfl (by first | omega | (simp only [depth_under_make, depth_under_kw, depth_in1, depth_deeper, depth_caller]; first | decide | omega)) (by decide) ?_ (by k_in)); intro v' h' tk' t' k0' hv1' hv2' F' N'; (try simp only [Int.reduceToNat, Int.reducePow, Int.reduceNeg] at hv1' hv2'); (try k_sweep))
  k_with "call ref" => (k_here; (with_reducible show wpAny _ _ (call (Value.ref 270) _ _) _ _ _); (rename ElF _ _ _ _ _ => elf); refine Stop.of ?_)
  k_with "call ref" => (k_here; (first | (with_reducible show wpAny _ _ (call (Value.ref 288) _ _) _ _ _) | (with_reducible show wpAny _ _ (call (Value.ref 295) _ _) _ _ _)); refine Stop.of ?_)
  k_with "call ref" => (k_here; (rename QF _ => qfX); (with_reducible show wpAny _ _ (call (Value.ref 270) _ _) _ _ _); k_dflt (refine' mkND (by k_asm) (by k_asm) (by k_asm) (by k_asm) rfl rfl (by first | omega | (simp only [depth_under_make, depth_under_kw, depth_in1, depth_deeper, depth_caller]; first | decide | omega)) (by assumption) ?_ (by k_in)); intros; (try k_sweep))
  k_with "getAttr ref" => (k_here; (with_reducible show wpAny _ _ (getAttr (Value.ref _) (Str.ofString "mean") _) _ _ _); k_dflt (refine' mean_c (by k_asm) (by k_asm) (by k_asm) (by k_asm) rfl rfl (by first | omega | (simp only [depth_under_make, depth_under_kw, depth_in1, depth_deeper, depth_caller]; first | decide | omega)) (by k_mem) (by k_mem) ?_ (by k_in)); intros; (try k_sweep))
  k_with "getAttr ref" => (k_here; (with_reducible show wpAny _ _ (getAttr (Value.ref _) (Str.ofString "stdev") _) _ _ _); k_dflt (refine' stdev_c (by k_asm) (by k_asm) (by k_asm) (by k_asm) rfl rfl (by first | omega | (simp only [depth_under_make, depth_under_kw, depth_in1, depth_deeper, depth_caller]; first | decide | omega)) (by k_mem) (by k_mem) ?_ (by k_in)); intros; (try k_sweep))
  k_with "binaryOp Div ref int" => (k_here; k_dflt (refine' div_ri (by k_asm) (by k_asm) (by k_asm) (by k_asm) rfl rfl (by first | omega | (simp only [depth_under_make, depth_under_kw, depth_in1, depth_deeper, depth_caller]; first | decide | omega)) (by k_mem) (by k_mem) (QF.k63 (by assumption)) (QF.k0 (by assumption)) (QF.nz (by assumption)) (nn_div (by assumption)) ?_ (by k_in)); intros; (try k_sweep))
  k_with "binaryOp Div ref float" => (k_here; k_dflt (refine' div_rf (by k_asm) (by k_asm) (by k_asm) (by k_asm) rfl rfl (by first | omega | (simp only [depth_under_make, depth_under_kw, depth_in1, depth_deeper, depth_caller]; first | decide | omega)) (by k_mem) (by k_mem) (QF.hz0 (by assumption)) (QF.hz1 (by assumption)) (nn_div (by assumption)) ?_ (by k_in)); intros; (try k_sweep))
  k_with "compareOp Eq ref ref" => (k_here; k_dflt (refine' eq_rr (by k_asm) (by k_asm) (by k_asm) (by k_asm) rfl rfl (by first | omega | (simp only [depth_under_make, depth_under_kw, depth_in1, depth_deeper, depth_caller]; first | decide | omega)) (by k_mem) (by k_mem) (by k_mem) (by k_mem) (by decide) ?_ (by k_in)); intros; (try k_sweep))
  k_with "call builtin:all" => (k_here; k_dflt (refine' LSm.all_bools (by k_asm) (by k_asm) (by rfl) (News.isList (by k_asm) (by k_mem)) (by assumption) ?_); intro h' tk' F' N')
  k_with "compareOp NotEq ref ref" => (k_here; (rename QF _ => qfX); refine Stop.of ?_)
  k_with "compareOp Eq int int" => (k_here; (with_reducible refine eq_int ?_); first | ((rename QZ _ => qzX); rw [qzX.t]) | ((rename QF _ => qfX); rw [qfX.f]))
  k_with "compareOp NotEq float int" => (k_here; (rename TF _ _ _ _ _ _ _ _ _ _ => tfX); (with_reducible refine ne_fi ?_); ((rename QZ _ => qzX); rw [tfX.m0 qzX.z]))
  k_go0
  all_goals (try k_fold)
  k_steps
  refine Stop.goes ?_
  have gon := GoOn.mk
  rename Flt.Hid (_ = 2 + Int.fmod _ 3) => hmany
  obtain ⟨hm2, hm4⟩ := many_bnd hmany.out
  refine' tab3 ?zaN ?zam ?zak ?_ ?zas
  case zaN => k_asm
  case zam => k_mem
  case zak => omega
  case zas => with_unfolding_all rfl
  intro t9
  k_steps
  refine Stop.goes ?_
  refine Stop.goes ?_
  rename Dy _ (1 + Int.fmod _ 5) _ => dun0
  obtain ⟨u, hu, dun1⟩ := dy_unit dun0
  clear dun0
  rename Dy _ _ _ => dsl
  have dun := dun1.out
  clear dun1
  rename IntsAre _ (List.map _ _) => ia1
  obtain ⟨fB, hB, ia2⟩ := fun_of ia1
  clear ia1
  have iaB := Hd.mk ia2
  clear ia2
  rename IntsAre _ (List.map _ _) => ia1
  obtain ⟨fP, hP, ia2⟩ := fun_of ia1
  clear ia1
  have iaP := Hd.mk ia2
  clear ia2
  rename IntsAre _ (List.map _ _) => ia1
  obtain ⟨fL, hL, ia2⟩ := fun_of ia1
  clear ia1 ia2
  rename IntsAre _ (List.map _ _) => ia1
  obtain ⟨fT, hT, ia2⟩ := fun_of ia1
  clear ia1
  have iaT := ia2
  clear ia2
  have iaP' := iaP.out
  have iaB' := iaB.out
  clear iaP iaB
  rename Flt.Hid (_ = if _ - 2 = 0 then 5 else _) => hfar
  have ln := lns_mk (T := fT) (L := fL) (P := fP) (B := fB) hm2 hm4 hfar.out hT.out hL.out (by rw [hL.out, hT.out]; exact hP.out) (by rw [hL.out, hT.out]; exact hB.out)
  clear hT hL hP hB
  have elf := elf_mk ln hu dun
  refine' LCg.CompSrc.range ?rcA ?rcF ?rcN ?rcR ?rcS ?rcn ?rcz ?_
  case rcA => rfl
  case rcF => with_reducible assumption
  case rcN => with_reducible assumption
  case rcR => with_reducible assumption
  case rcS => exact small_many hm2 hm4
  case rcn => exact rangeSize_nat _ _
  case rcz => exact size_many hm4
  intro g'
  refine' rest_objs2 (MU := fun k => Float64.mul (dyx dsl) (Float64.ofInt (fP (0 + k)))) (SG := fun k => Float64.mul (Float64.ofInt (fT (0 + k) * hidl hfar)) (dyx dun)) ?rturn ?rfin
  case rturn =>
    intro k t I oI C oC D m₂ ys nw h tk E' hk0 hk1 hoC hx F' N' off ne
    simp only [List.cons_append, List.nil_append] at N'
    k_steps
    refine Stop.goes ?_
    refine' mkNDf ?B ?F ?N ?T ?hf ?hke ?hr ?hs ?_ ?X
    case B => k_asm
    case F => k_asm
    case N => k_asm
    case T => k_asm
    case hf => exact rfl
    case hke => exact rfl
    case hr => first | omega | (simp only [depth_under_make, depth_under_kw, depth_in1, depth_deeper, depth_caller]; first | decide | omega)
    case hs => (rename ElF _ _ _ _ _ => elf2; exact elf2.nn _ hk0 hk1)
    case X => k_in
    intro x' d' h' tk' tk0 fr hs' F' N'
    exact compEnd_nd F' N' off fr ⟨rfl, rfl⟩
  intro rs hrl hrf
  obtain ⟨r0, r1, r2, r3, hrp, hr0, hr1, hr2, hr3⟩ := pad4 hrl ⟨ln.nb.1, ln.nb.2.1⟩
  unfold LCg.FinA
  intro DR h tk F N o1
  have N0 := (show News _ _ _ ([_, _, _, _, _, _, _, _, _, _, _, _, _, _, _, _, _, _, _, _, _] ++ rled rs) from N)
  clear N o1
  have N1 := news_keep N0 [false, false, false, false, false, false, false, false, false, false, false, false, false, false, false, false, false, false, true, true, true]
  rw [keepB_app _ _ rfl] at N1
  dsimp only [keepB] at N1
  have N2 := news_keep N0 [true, true, true, true, true, false, false, false, false, true, true, false, false, false, true, true, true, false, false, false, false]
  rw [keepB_app _ _ rfl] at N2
  dsimp only [keepB] at N2
  have N3 := news_app N1 (news_app N2 (pads_news N0 hr0 hr1 hr2 hr3))
  dsimp only [List.cons_append, List.nil_append, pads] at N3
  clear N1 N2 N0
  dsimp only
  k_steps
  refine Stop.goes ?_
  have hsl := slb_of dsl (by with_reducible assumption) (by with_reducible assumption)
  rename Fr _ _ _ _ => lF
  rename News _ _ _ _ => lN
  refine' row_loop (R := DR) (by rfl) lF lN ?rm ?rc ?rd ?rR ?rd1 ?rd2 ?rd3 ?rturn2 ?rdone
  case rm => k_mem
  case rc => rfl
  case rd => rfl
  case rR => rfl
  case rd1 => assumption
  case rd2 => assumption
  case rd3 => assumption
  case rdone =>
    intro u2 h2 tk2 F2 N2
    clear lF lN
    k_steps
  clear lF lN
  have rds := rds_mk (sl := dyx dsl) (un := dyx dun) (far := hidl hfar) hrl hrf
  have pd4 := PD4.mk hrp
  have ub := UB.mk hu
  clear hrl hrf hrp hr0 hr1 hr2 hr3 hu
  repeat (rename Fr _ _ _ _ => hcl; clear hcl)
  repeat (rename News _ _ _ _ => hcl; clear hcl)
  repeat (rename List.length _ = _ => hcl; clear hcl)
  repeat (rename (@LT.lt Nat _ _ _) => hcl; clear hcl)
  repeat (rename (@Ne Nat _ _) => hcl; clear hcl)
  repeat (rename (IsRange _ _ _ _ _ _ _ _) => hcl; clear hcl)
  repeat (rename (∀ (b : Addr) (o : Obj), Heap.get? _ b = some o → Heap.get? _ b = some o) => hcl; clear hcl)
  intro v u o1 o2 o3 v1 v2 v3 h tk I oI hv d1 d2 d3 n1 n2 n3 F' N' off
  rename IntsAre _ (_ ++ [5, -7]) => iaR
  obtain ⟨nv, nt, rfl⟩ := ints_mem iaR hv
  dsimp only [envOfC] at F' N'
  k_steps
  refine Stop.goes ?_
  rename IntsAre _ (List.map _ (List.map _ _)) => ia1
  have ia2 := along_ints ia1
  clear ia1
  have al := AL.mk
  k_steps
  refine Stop.goes ?_
  rename Fr _ _ _ _ => lF
  rename News _ _ _ _ => lN
  have lN1 := news_keep lN [false, false, false, false, false, false, false, true]
  have lN2 := news_keep lN [true, true, true, true, true, true, true, false, true, true, true, true, true, true, true, true, true, true, true, true, true, true, true, true, true, true]
  dsimp only [keepB] at lN1 lN2
  have lN3 := news_app lN1 lN2
  dsimp only [List.cons_append, List.nil_append] at lN3
  clear lN1 lN2
  refine' in_loop (R := DR) (by rfl) lF lN3 ?im ?ic ?id ?iR ?id3 ?iturn ?idone
  case im => k_mem
  case ic => rfl
  case id => rfl
  case iR => rfl
  case id3 => assumption
  case idone =>
    intro u3 o4 v4 h2 tk2 d4 F2 N2
    clear lF lN lN3
    dsimp only
    k_steps
    refine' row_end F2 N2 ?eI ?eR ?e1 ?e2 ?e3 ?ed1 ?ed2 ?ed3 ?es n1 n2 n3 off
    case eI => k_mem
    case eR => rfl
    case e1 => k_mem
    case ed1 => assumption
    case e2 => k_mem
    case ed2 => assumption
    case e3 => k_mem
    case ed3 => assumption
    case es => (intro p hp; (repeat (first | exact hp | refine List.Mem.tail _ ?_)))
  intro v u o3 v3 h tk I2 oI2 hv2 d3' nI2 F' N' off2
  dsimp only [envOfC] at F' N'
  rename LNS _ _ _ _ _ => ln
  obtain ⟨W, ws, g, rfl, lN4, iaW, kd⟩ := wk_go (B := fB) N' hv2 (wk_along (by k_mem) (by with_reducible assumption)) (wk_moved (by k_mem) hm2 (by with_reducible assumption)) (wk_drawn (by k_mem) (by with_reducible assumption))
  have hF := Hd.mk F'
  have hN := Hd.mk lN4
  have hiW := Hd.mk iaW
  have hiP := Hd.mk iaP'
  have hiB := Hd.mk iaB'
  clear F' N' lN4 iaW iaP' iaB' lF lN lN3 hv2
  repeat (rename Fr _ _ _ _ => hcl; clear hcl)
  repeat (rename News _ _ _ _ => hcl; clear hcl)
  repeat (rename IntsAre _ _ => hcl; clear hcl)
  repeat (rename List.length _ = _ => hcl; clear hcl)
  repeat (rename (@LT.lt Nat _ _ _) => hcl; clear hcl)
  repeat (rename (@LT.lt Nat _ _ _ ∧ _) => hcl; clear hcl)
  repeat (rename (IsRange _ _ _ _ _ _ _ _) => hcl; clear hcl)
  repeat (rename (∀ (b : Addr) (o : Obj), Heap.get? _ b = some o → Heap.get? _ b = some o) => hcl; clear hcl)
  have F1 := hF.out
  have N1 := hN.out
  have iaW := hiW.out
  have iaP := hiP.out
  have iaB := hiB.out
  clear hF hN hiW hiP hiB
  rename LNS _ _ _ _ _ => ln
  have wf := WF.mk ln ub dun dsl hsl rds kd
  k_steps
  refine Stop.goes ?_
  refine' weighed_c (J := JW _ _ _ _ _ _ _) ?wB ?wF ?wN ?wT ?wf ?wke ?wr ?wR ?wW iaW wf.len wf.len4 ?win wf.hnn wf.hyb jw_0 (jw_e wf) (jw_o wf) ?_ ?wX
  case wB => k_asm
  case wF => k_asm
  case wN => k_asm
  case wT => k_asm
  case wf => exact rfl
  case wke => exact rfl
  case wr => first | omega | (simp only [depth_under_make, depth_under_kw, depth_in1, depth_deeper, depth_caller]; first | decide | omega)
  case wR => k_mem
  case wW => k_mem
  case win =>
    intro r hr
    rcases pd4.all r hr with rfl | rfl | rfl | rfl <;> exact ⟨by k_mem, by k_mem⟩
  case wX => k_in
  intro xT dT M S h' tk' t1 t2 p1 p2 hJ F' N'
  k_steps
  refine Stop.goes ?_
  rename Flt.Hid (_ = List.sum _) => hq
  have tf := tf_mk wf hJ hq.out
  clear hJ
  by_cases hq0 : hidl hq = 0
  · have qz := QZ.mk hq0
    clear hq0
    dsimp only [hidl] at qz
    refine wpAny_If ?_
    k_steps
    refine Stop.goes ?_
    refine' refused_c ?rB ?rF ?rN ?rT ?rXB ?rTB ?rf ?rke ?rr ?rx ?rdx ?_ ?rX
    case rB => k_asm
    case rF => k_asm
    case rN => k_asm
    case rT => k_asm
    case rXB => assumption
    case rTB => assumption
    case rf => exact rfl
    case rke => exact rfl
    case rr => first | omega | (simp only [depth_under_make, depth_under_kw, depth_in1, depth_deeper, depth_caller]; first | decide | omega)
    case rx => k_mem
    case rdx => k_mem
    case rX => k_in
    intro h' tk' F' N'
    k_steps
    refine' in_end ?yF ?yN ?yI ?yR ?y3 ?yd ?ys nI2 off2
    case yF => assumption
    case yN => assumption
    case yI => k_mem
    case yR => rfl
    case y3 => k_mem
    case yd => assumption
    case ys => (intro p hp; (repeat (first | exact hp | refine List.Mem.tail _ ?_)))
  · have qf : QF _ := ⟨hq0, tf.qb⟩
    clear hq0
    dsimp only [hidl] at qf
    have hnS := tf.nn
    have hnU := ub.nn dun
    refine wpAny_If ?_
    k_steps
    refine Stop.goes ?_
    rename QF _ => qf
    obtain ⟨b, hb, hbA, hbN, hb60⟩ := wf.told tf qf
    obtain ⟨hs2, hs22⟩ := wf.sd2 tf qf hb hb60
    obtain ⟨sS, hS⟩ := tf.fvS
    refine' ne_f4 ?fF ?fN ?fX ?fh ?fg (tf.two hsl qf) (tf.mean22 hsl qf) hs2 hs22 tf.dm tf.dm hS hS ?f1 ?f2 ?f3 ?f4 ?f5 ?f6 ?f7 ?f8 ?fu ?_
    case fF => k_asm
    case fN => k_asm
    case fX => k_in
    case fh => k_mem
    case fg => k_mem
    case f1 => first | assumption | exact Nat.zero_lt_succ _
    case f2 => first | assumption | exact Nat.zero_lt_succ _
    case f3 => first | assumption | exact Nat.zero_lt_succ _
    case f4 => first | assumption | exact Nat.zero_lt_succ _
    case f5 => first | assumption | exact Nat.zero_lt_succ _
    case f6 => first | assumption | exact Nat.zero_lt_succ _
    case f7 => first | assumption | exact Nat.zero_lt_succ _
    case f8 => first | assumption | exact Nat.zero_lt_succ _
    case fu => first | decide | exact Nat.le_of_ble_eq_true rfl | units_room
    k_steps
    refine Stop.goes ?_
    refine' LCg.CompSrc.range ?gA ?gF ?gN ?gR ?gS ?gn ?gz ?_
    case gA => rfl
    case gF => with_reducible assumption
    case gN => with_reducible assumption
    case gR => with_reducible assumption
    case gS => exact small_many hm2 hm4
    case gn => exact rangeSize_nat _ _
    case gz => exact size_many hm4
    intro g'
    refine' rest_bools (alB fB g) ?gturn ?gfin
    case gturn =>
      intro k t I oI C oC D m₂ ys h tk E' hk0 hk1 hoC hx F' N' off ne
      k_steps
      all_goals exact ⟨rfl, rfl⟩
    intro yb hyb
    k_steps
    refine Stop.goes ?_
    rename QF _ => qf
    have hE1 := end1 tf hsl qf dsl
    have hE2 := end2 (B := fB) (g := g) dun hb hbA hbN
    refine' ne_b3 ?hN ?hh0 ?hg0 hE1 hE2.1 ?he3 ?hu4 ?_
    case hN => k_asm
    case hh0 => k_mem
    case hg0 => k_mem
    case he3 => (rw [hE1, Bool.true_and]; exact hE2.2)
    case hu4 => first | decide | exact Nat.le_of_ble_eq_true rfl | units_room
    k_steps
    refine' in_end ?yF ?yN ?yI ?yR ?y3 ?yd ?ys nI2 off2
    case yF => assumption
    case yN => assumption
    case yI => k_mem
    case yR => rfl
    case y3 => k_mem
    case yd => assumption
    case ys => (intro p hp; (repeat (first | exact hp | refine List.Mem.tail _ ?_)))
end Mine

end WALK2
section Head
open PySem PySem.W PySem.Calls PyProof.Rows
namespace Mine
theorem head2.tw10007574655742419079 : True := trivial
theorem head2.tw10028570373215157452 : True := trivial
theorem head2.tw10039950369692626434 : True := trivial
theorem head2.tw10041278497070429420 : True := trivial
theorem head2.tw10123490946624701630 : True := trivial
theorem head2.tw101504646459640306 : True := trivial
theorem head2.tw10242563515480612618 : True := trivial
theorem head2.tw10278399224960404675 : True := trivial
theorem head2.tw10306771093840904153 : True := trivial
theorem head2.tw10324754683987779803 : True := trivial
theorem head2.tw10353227253746806407 : True := trivial
theorem head2.tw10389455030284111874 : True := trivial
theorem head2.tw10390941488087886790 : True := trivial
theorem head2.tw10408200563735941904 : True := trivial
theorem head2.tw10424717243641724360 : True := trivial
theorem head2.tw10456461708741161296 : True := trivial
theorem head2.tw10474724312580526520 : True := trivial
theorem head2.tw10475630021533118046 : True := trivial
theorem head2.tw10484512372734116691 : True := trivial
theorem head2.tw10486795533678301943 : True := trivial
theorem head2.tw10525453118747308250 : True := trivial
theorem head2.tw10617075878892286275 : True := trivial
theorem head2.tw10641526225249163111 : True := trivial
theorem head2.tw10657812343891326387 : True := trivial
theorem head2.tw10739636313140345391 : True := trivial
theorem head2.tw10749648227472136904 : True := trivial
theorem head2.tw10763729431639849581 : True := trivial
theorem head2.tw107771121177890698 : True := trivial
theorem head2.tw10839151401514397437 : True := trivial
theorem head2.tw10863588509866254392 : True := trivial
theorem head2.tw10866148683458543486 : True := trivial
theorem head2.tw10878092423654938837 : True := trivial
theorem head2.tw10943203868537309195 : True := trivial
theorem head2.tw10966287963005442742 : True := trivial
theorem head2.tw10975141664047676983 : True := trivial
theorem head2.tw10982097253286367462 : True := trivial
theorem head2.tw11028394564971592045 : True := trivial
theorem head2.tw11052424458852571676 : True := trivial
theorem head2.tw11148326541487822999 : True := trivial
theorem head2.tw11185251124121780269 : True := trivial
theorem head2.tw11269897816495069170 : True := trivial
theorem head2.tw11277116282169182472 : True := trivial
theorem head2.tw11286926394055841644 : True := trivial
theorem head2.tw11325473427289887066 : True := trivial
theorem head2.tw11356936061426493494 : True := trivial
theorem head2.tw11358114841998003193 : True := trivial
theorem head2.tw11371451705992616681 : True := trivial
theorem head2.tw11388034794875678430 : True := trivial
theorem head2.tw11425406282201805431 : True := trivial
theorem head2.tw11447604588831628756 : True := trivial
theorem head2.tw11508470155252954535 : True := trivial
theorem head2.tw11515517752200924311 : True := trivial
theorem head2.tw11643139354331413222 : True := trivial
theorem head2.tw11662474787877555057 : True := trivial
theorem head2.tw11663226128972093222 : True := trivial
theorem head2.tw11670454554082126658 : True := trivial
theorem head2.tw11700612766140926488 : True := trivial
theorem head2.tw11711473845084192369 : True := trivial
theorem head2.tw11724704632863376410 : True := trivial
theorem head2.tw11870868332201656063 : True := trivial
theorem head2.tw11881846423188215113 : True := trivial
theorem head2.tw11902116982445754482 : True := trivial
theorem head2.tw11905801799307928803 : True := trivial
theorem head2.tw11926160308127361159 : True := trivial
theorem head2.tw11967414759122985461 : True := trivial
theorem head2.tw12007431951509515900 : True := trivial
theorem head2.tw12018374183745197912 : True := trivial
theorem head2.tw12118073695795009589 : True := trivial
theorem head2.tw12123357142471432928 : True := trivial
theorem head2.tw12133474059371949413 : True := trivial
theorem head2.tw12189511261126981387 : True := trivial
theorem head2.tw12194329954196452918 : True := trivial
theorem head2.tw12212597894605521836 : True := trivial
theorem head2.tw12220576799399119192 : True := trivial
theorem head2.tw12302121117814754380 : True := trivial
theorem head2.tw12318139710453208224 : True := trivial
theorem head2.tw12378701378797295797 : True := trivial
theorem head2.tw12396998314271730466 : True := trivial
theorem head2.tw12424660675056545153 : True := trivial
theorem head2.tw12436090990028987011 : True := trivial
theorem head2.tw12436358004771240271 : True := trivial
theorem head2.tw12442285840162239087 : True := trivial
theorem head2.tw12444149122802188463 : True := trivial
theorem head2.tw12449134713445545978 : True := trivial
theorem head2.tw12451639519551154927 : True := trivial
theorem head2.tw12501767126237857939 : True := trivial
theorem head2.tw12515315102241089561 : True := trivial
theorem head2.tw12527536803991718168 : True := trivial
theorem head2.tw12561014259777572762 : True := trivial
theorem head2.tw125690773662780155 : True := trivial
theorem head2.tw12596255297218325930 : True := trivial
theorem head2.tw12604911344042618989 : True := trivial
theorem head2.tw12607727398815323523 : True := trivial
theorem head2.tw12622613675170321018 : True := trivial
theorem head2.tw12741762705240985634 : True := trivial
theorem head2.tw12762749348367454457 : True := trivial
theorem head2.tw12780124301219291379 : True := trivial
theorem head2.tw12833861672557276534 : True := trivial
theorem head2.tw12834976399504321649 : True := trivial
theorem head2.tw12865141377327325053 : True := trivial
theorem head2.tw12866025785581943362 : True := trivial
theorem head2.tw12878722714076865411 : True := trivial
theorem head2.tw12911914498898372829 : True := trivial
theorem head2.tw12929911627442386947 : True := trivial
theorem head2.tw12968266719624337912 : True := trivial
theorem head2.tw13006109099039184052 : True := trivial
theorem head2.tw1300917969313538417 : True := trivial
theorem head2.tw13022133384171569909 : True := trivial
theorem head2.tw13023333915112551350 : True := trivial
theorem head2.tw1304831325202770525 : True := trivial
theorem head2.tw13090616287450081691 : True := trivial
theorem head2.tw13205387116887215612 : True := trivial
theorem head2.tw13229017098442983367 : True := trivial
theorem head2.tw13241786937131226691 : True := trivial
theorem head2.tw13243989855349587065 : True := trivial
theorem head2.tw13268711968691231414 : True := trivial
theorem head2.tw13278849915047620483 : True := trivial
theorem head2.tw13281656100750701170 : True := trivial
theorem head2.tw13308132608709907736 : True := trivial
theorem head2.tw13308467974218740510 : True := trivial
theorem head2.tw13336161829216275543 : True := trivial
theorem head2.tw1338321391863062614 : True := trivial
theorem head2.tw1340893755758467168 : True := trivial
theorem head2.tw13422560251044720139 : True := trivial
theorem head2.tw13430394658882043807 : True := trivial
theorem head2.tw13437992215306885754 : True := trivial
theorem head2.tw13450903723193433393 : True := trivial
theorem head2.tw13487464164721949576 : True := trivial
theorem head2.tw13500501495311298030 : True := trivial
theorem head2.tw13534986267701074003 : True := trivial
theorem head2.tw1355090909608243361 : True := trivial
theorem head2.tw13557583092134900450 : True := trivial
theorem head2.tw13563936853443667866 : True := trivial
theorem head2.tw13581062017670634439 : True := trivial
theorem head2.tw13592458554467745015 : True := trivial
theorem head2.tw13593614165388138379 : True := trivial
theorem head2.tw13596044442059968943 : True := trivial
theorem head2.tw13653946055794202778 : True := trivial
theorem head2.tw13663296540245635080 : True := trivial
theorem head2.tw13693990786328755887 : True := trivial
theorem head2.tw13732080817022874018 : True := trivial
theorem head2.tw13745887087485831936 : True := trivial
theorem head2.tw13770591377164360855 : True := trivial
theorem head2.tw13775485662115099552 : True := trivial
theorem head2.tw13782121010912988160 : True := trivial
theorem head2.tw13804178986650997444 : True := trivial
theorem head2.tw13808642528037085981 : True := trivial
theorem head2.tw13812528344016108758 : True := trivial
theorem head2.tw13824922067302398325 : True := trivial
theorem head2.tw13829222014443365965 : True := trivial
theorem head2.tw13858224300118372523 : True := trivial
theorem head2.tw13900351581824839730 : True := trivial
theorem head2.tw13956628786100317630 : True := trivial
theorem head2.tw13980280962843264081 : True := trivial
theorem head2.tw13998802634171827606 : True := trivial
theorem head2.tw14000917793783996731 : True := trivial
theorem head2.tw14141347889330798287 : True := trivial
theorem head2.tw14147579554306814237 : True := trivial
theorem head2.tw14153592428479778503 : True := trivial
theorem head2.tw14195137462654727757 : True := trivial
theorem head2.tw14214533488552580289 : True := trivial
theorem head2.tw14220863496659632600 : True := trivial
theorem head2.tw14224254960329276395 : True := trivial
theorem head2.tw14227994429116608362 : True := trivial
theorem head2.tw14256608110142781525 : True := trivial
theorem head2.tw14263909327995205029 : True := trivial
theorem head2.tw14297938794017135101 : True := trivial
theorem head2.tw14304365422400488703 : True := trivial
theorem head2.tw14314180364254252390 : True := trivial
theorem head2.tw1438208314766235088 : True := trivial
theorem head2.tw14398852310442037156 : True := trivial
theorem head2.tw14428954445828094264 : True := trivial
theorem head2.tw14454293983043944417 : True := trivial
theorem head2.tw14456271910884056674 : True := trivial
theorem head2.tw14460698856643716335 : True := trivial
theorem head2.tw14566851673288970031 : True := trivial
theorem head2.tw14572016720352466112 : True := trivial
theorem head2.tw14579858353928990161 : True := trivial
theorem head2.tw14651465476421267640 : True := trivial
theorem head2.tw14660770690466306047 : True := trivial
theorem head2.tw14666808533118151352 : True := trivial
theorem head2.tw14712503467155208064 : True := trivial
theorem head2.tw1476593276312789978 : True := trivial
theorem head2.tw1477006125067244601 : True := trivial
theorem head2.tw14792160211509581251 : True := trivial
theorem head2.tw14796470452712767016 : True := trivial
theorem head2.tw14874704984399934869 : True := trivial
theorem head2.tw14927889110494332568 : True := trivial
theorem head2.tw14943702166437023740 : True := trivial
theorem head2.tw14953987859286381265 : True := trivial
theorem head2.tw15088652081100344312 : True := trivial
theorem head2.tw15115973046253647366 : True := trivial
theorem head2.tw15121132538480894349 : True := trivial
theorem head2.tw15147089539096127169 : True := trivial
theorem head2.tw15150710033434812659 : True := trivial
theorem head2.tw15190295876130988220 : True := trivial
theorem head2.tw15213041447920818327 : True := trivial
theorem head2.tw15214419415835585794 : True := trivial
theorem head2.tw15255515232798297806 : True := trivial
theorem head2.tw15298680952571050434 : True := trivial
theorem head2.tw1535159551405588251 : True := trivial
theorem head2.tw15364350498087452413 : True := trivial
theorem head2.tw15375687997560309101 : True := trivial
theorem head2.tw15392726149716926933 : True := trivial
theorem head2.tw1543462295248467220 : True := trivial
theorem head2.tw15451790327692376068 : True := trivial
theorem head2.tw15475363000158166968 : True := trivial
theorem head2.tw15488266529331582280 : True := trivial
theorem head2.tw15625450009836007074 : True := trivial
theorem head2.tw15628741474426851372 : True := trivial
theorem head2.tw15767935854113686545 : True := trivial
theorem head2.tw15775248617043791673 : True := trivial
theorem head2.tw15778793838137016367 : True := trivial
theorem head2.tw15780066751224356997 : True := trivial
theorem head2.tw15829168567183524744 : True := trivial
theorem head2.tw15861359431906806947 : True := trivial
theorem head2.tw15864563008750349067 : True := trivial
theorem head2.tw15870469076640443347 : True := trivial
theorem head2.tw15880939137339662741 : True := trivial
theorem head2.tw15937615983900774596 : True := trivial
theorem head2.tw15939781327025177730 : True := trivial
theorem head2.tw15986887216767239667 : True := trivial
theorem head2.tw16033558722257043095 : True := trivial
theorem head2.tw16051365155166424482 : True := trivial
theorem head2.tw16071001894941391281 : True := trivial
theorem head2.tw1614681749706810526 : True := trivial
theorem head2.tw16180629469700038213 : True := trivial
theorem head2.tw16205901772587517174 : True := trivial
theorem head2.tw16206667769050745085 : True := trivial
theorem head2.tw16230980928732804769 : True := trivial
theorem head2.tw1626653427877040139 : True := trivial
theorem head2.tw16298366166156130087 : True := trivial
theorem head2.tw16372260315101039165 : True := trivial
theorem head2.tw16436784444799248676 : True := trivial
theorem head2.tw16494051315910976656 : True := trivial
theorem head2.tw16499359370450825854 : True := trivial
theorem head2.tw16509504121365888537 : True := trivial
theorem head2.tw165607186717731611 : True := trivial
theorem head2.tw16638367518561786875 : True := trivial
theorem head2.tw16661662320054913924 : True := trivial
theorem head2.tw16704143265714039910 : True := trivial
theorem head2.tw16784386684573498772 : True := trivial
theorem head2.tw16811698604493575629 : True := trivial
theorem head2.tw16875692702548438063 : True := trivial
theorem head2.tw16880066157785474524 : True := trivial
theorem head2.tw16958046751391777995 : True := trivial
theorem head2.tw17014621917529960888 : True := trivial
theorem head2.tw17023241829871625375 : True := trivial
theorem head2.tw17051968548765731420 : True := trivial
theorem head2.tw17072760113575408004 : True := trivial
theorem head2.tw17125405373704841270 : True := trivial
theorem head2.tw17162996756583958886 : True := trivial
theorem head2.tw1716688812846052700 : True := trivial
theorem head2.tw1723324477950236457 : True := trivial
theorem head2.tw17262796860877844187 : True := trivial
theorem head2.tw17353811234325118376 : True := trivial
theorem head2.tw17463869981894036254 : True := trivial
theorem head2.tw17485719151229956460 : True := trivial
theorem head2.tw17508877573171310234 : True := trivial
theorem head2.tw1763939854376927856 : True := trivial
theorem head2.tw17671706680618917686 : True := trivial
theorem head2.tw17699476320425303637 : True := trivial
theorem head2.tw17760869883413459959 : True := trivial
theorem head2.tw17788363983684210333 : True := trivial
theorem head2.tw17813469119237412269 : True := trivial
theorem head2.tw17864672977403588602 : True := trivial
theorem head2.tw17878560946013334879 : True := trivial
theorem head2.tw17895453216199489944 : True := trivial
theorem head2.tw17937623078284481050 : True := trivial
theorem head2.tw17955395159853865291 : True := trivial
theorem head2.tw17969613215373697172 : True := trivial
theorem head2.tw18006192449949644170 : True := trivial
theorem head2.tw18023165990924262873 : True := trivial
theorem head2.tw18084053852630906711 : True := trivial
theorem head2.tw18092322784223792985 : True := trivial
theorem head2.tw18118268241289861817 : True := trivial
theorem head2.tw18192083548994041715 : True := trivial
theorem head2.tw18258882289575513385 : True := trivial
theorem head2.tw18277739621937911377 : True := trivial
theorem head2.tw18294804392723369481 : True := trivial
theorem head2.tw18338530475307739603 : True := trivial
theorem head2.tw18363942862370709337 : True := trivial
theorem head2.tw18381562670979647096 : True := trivial
theorem head2.tw18412171718283831756 : True := trivial
theorem head2.tw1858548036512338285 : True := trivial
theorem head2.tw193663272371975097 : True := trivial
theorem head2.tw1964514622915633296 : True := trivial
theorem head2.tw1964983249635579266 : True := trivial
theorem head2.tw1991357837232386905 : True := trivial
theorem head2.tw2023456111198031774 : True := trivial
theorem head2.tw2024328892330135616 : True := trivial
theorem head2.tw2035606879073208482 : True := trivial
theorem head2.tw2049149430177328012 : True := trivial
theorem head2.tw2075460752237719621 : True := trivial
theorem head2.tw2082054406222325551 : True := trivial
theorem head2.tw2148869446392468945 : True := trivial
theorem head2.tw216136109658752161 : True := trivial
theorem head2.tw2181194252731706941 : True := trivial
theorem head2.tw2184240396404172431 : True := trivial
theorem head2.tw2184703203635222840 : True := trivial
theorem head2.tw2189344899483235998 : True := trivial
theorem head2.tw222927524526525711 : True := trivial
theorem head2.tw223648960365109239 : True := trivial
theorem head2.tw2253245465712753824 : True := trivial
theorem head2.tw2374446019331689216 : True := trivial
theorem head2.tw2393924517520751064 : True := trivial
theorem head2.tw2429704492704830280 : True := trivial
theorem head2.tw2442775384437956110 : True := trivial
theorem head2.tw2466458117936750964 : True := trivial
theorem head2.tw2485568705124865108 : True := trivial
theorem head2.tw2530345466324552296 : True := trivial
theorem head2.tw253796125900602820 : True := trivial
theorem head2.tw2549516988100079837 : True := trivial
theorem head2.tw2557671279010214119 : True := trivial
theorem head2.tw2573515048537320288 : True := trivial
theorem head2.tw258498657783127465 : True := trivial
theorem head2.tw2588280411083989016 : True := trivial
theorem head2.tw2603402084147140072 : True := trivial
theorem head2.tw2604765587770185559 : True := trivial
theorem head2.tw2628480863712900755 : True := trivial
theorem head2.tw2651899967005768226 : True := trivial
theorem head2.tw2658291608584900968 : True := trivial
theorem head2.tw2729062856545982197 : True := trivial
theorem head2.tw2735437870190397038 : True := trivial
theorem head2.tw2738052983455049207 : True := trivial
theorem head2.tw2750788015036794387 : True := trivial
theorem head2.tw276853731051385815 : True := trivial
theorem head2.tw2785582867206498352 : True := trivial
theorem head2.tw2825129090511670542 : True := trivial
theorem head2.tw2833322330032360273 : True := trivial
theorem head2.tw2860762186233267405 : True := trivial
theorem head2.tw2884066867272714342 : True := trivial
theorem head2.tw2902377323121229996 : True := trivial
theorem head2.tw2903595885635115831 : True := trivial
theorem head2.tw2909487850161773362 : True := trivial
theorem head2.tw2921292632406876284 : True := trivial
theorem head2.tw2925677593763117893 : True := trivial
theorem head2.tw295509733299099369 : True := trivial
theorem head2.tw296052660588231333 : True := trivial
theorem head2.tw3026969726199142650 : True := trivial
theorem head2.tw3028396060936882336 : True := trivial
theorem head2.tw3072835634509643546 : True := trivial
theorem head2.tw3076315874748157819 : True := trivial
theorem head2.tw3076536564482240927 : True := trivial
theorem head2.tw3108474150981361970 : True := trivial
theorem head2.tw313510285538600477 : True := trivial
theorem head2.tw3144136591321890849 : True := trivial
theorem head2.tw3191655074524922055 : True := trivial
theorem head2.tw3226016319296388476 : True := trivial
theorem head2.tw3227157899355045079 : True := trivial
theorem head2.tw3237017556566518756 : True := trivial
theorem head2.tw336668341588447765 : True := trivial
theorem head2.tw3369583263919270986 : True := trivial
theorem head2.tw3381018168851785106 : True := trivial
theorem head2.tw3383726896010536737 : True := trivial
theorem head2.tw3401020829720502268 : True := trivial
theorem head2.tw3421018107274569973 : True := trivial
theorem head2.tw3436943096207467151 : True := trivial
theorem head2.tw3468645485415331522 : True := trivial
theorem head2.tw348400221462255441 : True := trivial
theorem head2.tw3490531882113900537 : True := trivial
theorem head2.tw3562951745671959513 : True := trivial
theorem head2.tw3569096961103969632 : True := trivial
theorem head2.tw3592792993237928347 : True := trivial
theorem head2.tw3598433753902641396 : True := trivial
theorem head2.tw3666919251006372694 : True := trivial
theorem head2.tw3674250568649231141 : True := trivial
theorem head2.tw3726435323153403971 : True := trivial
theorem head2.tw3759682698324823744 : True := trivial
theorem head2.tw3787652213254313047 : True := trivial
theorem head2.tw3795348595817174163 : True := trivial
theorem head2.tw3796419529686964980 : True := trivial
theorem head2.tw3827161121360396751 : True := trivial
theorem head2.tw3865302518060053826 : True := trivial
theorem head2.tw3917526059863238074 : True := trivial
theorem head2.tw3977001944722374436 : True := trivial
theorem head2.tw3979416402738275280 : True := trivial
theorem head2.tw4002375718088808446 : True := trivial
theorem head2.tw4043327445726610790 : True := trivial
theorem head2.tw41354619368994346 : True := trivial
theorem head2.tw4146518426093961042 : True := trivial
theorem head2.tw4157490080383534247 : True := trivial
theorem head2.tw4168172715699603050 : True := trivial
theorem head2.tw4178430872552839657 : True := trivial
theorem head2.tw433119346646852698 : True := trivial
theorem head2.tw4344501306102043953 : True := trivial
theorem head2.tw43597292767994001 : True := trivial
theorem head2.tw4386926228306714676 : True := trivial
theorem head2.tw4394015019679457192 : True := trivial
theorem head2.tw4423074797871092035 : True := trivial
theorem head2.tw4423257643271290945 : True := trivial
theorem head2.tw4466568578915835664 : True := trivial
theorem head2.tw4472060645876030631 : True := trivial
theorem head2.tw4477812821420769354 : True := trivial
theorem head2.tw4600472015483807244 : True := trivial
theorem head2.tw4608695112385964710 : True := trivial
theorem head2.tw4613213018123738314 : True := trivial
theorem head2.tw4615232644009378647 : True := trivial
theorem head2.tw4618992409715112545 : True := trivial
theorem head2.tw4650477732076638090 : True := trivial
theorem head2.tw4694503092921470707 : True := trivial
theorem head2.tw4700997507370221401 : True := trivial
theorem head2.tw4703202088880584094 : True := trivial
theorem head2.tw4708883834888262637 : True := trivial
theorem head2.tw4743149979742364886 : True := trivial
theorem head2.tw4748465397690704381 : True := trivial
theorem head2.tw4756516007591074076 : True := trivial
theorem head2.tw4763914215956569606 : True := trivial
theorem head2.tw4813801492033957239 : True := trivial
theorem head2.tw4860197571157845680 : True := trivial
theorem head2.tw4869501570085635035 : True := trivial
theorem head2.tw4896541820216009113 : True := trivial
theorem head2.tw4909520161134884898 : True := trivial
theorem head2.tw4914027203545095423 : True := trivial
theorem head2.tw4944314365030229211 : True := trivial
theorem head2.tw495905143764989647 : True := trivial
theorem head2.tw4990701190012429935 : True := trivial
theorem head2.tw4991483079264949588 : True := trivial
theorem head2.tw4995868051130304521 : True := trivial
theorem head2.tw5008319148500694967 : True := trivial
theorem head2.tw5012173554620053875 : True := trivial
theorem head2.tw5045718918526639675 : True := trivial
theorem head2.tw5059396200368338025 : True := trivial
theorem head2.tw507233369551987233 : True := trivial
theorem head2.tw508178771831819890 : True := trivial
theorem head2.tw5102783307417642501 : True := trivial
theorem head2.tw5112009499762498008 : True := trivial
theorem head2.tw517152309894755075 : True := trivial
theorem head2.tw5206048422848454395 : True := trivial
theorem head2.tw5231135233397537013 : True := trivial
theorem head2.tw5231233061285751947 : True := trivial
theorem head2.tw5257772965805590906 : True := trivial
theorem head2.tw526866553251551733 : True := trivial
theorem head2.tw5284280774747093571 : True := trivial
theorem head2.tw5369830901026229045 : True := trivial
theorem head2.tw5422837777296608050 : True := trivial
theorem head2.tw5447574902949734963 : True := trivial
theorem head2.tw5453225314667812699 : True := trivial
theorem head2.tw5497332629846449115 : True := trivial
theorem head2.tw5502588169608654753 : True := trivial
theorem head2.tw5504535529908876965 : True := trivial
theorem head2.tw5507163379760563767 : True := trivial
theorem head2.tw5529791599275848519 : True := trivial
theorem head2.tw5532615805960943017 : True := trivial
theorem head2.tw5541551714620471829 : True := trivial
theorem head2.tw5546342570686848699 : True := trivial
theorem head2.tw5726877124012854238 : True := trivial
theorem head2.tw5734804038723872854 : True := trivial
theorem head2.tw5750706413780413906 : True := trivial
theorem head2.tw5801897492202755662 : True := trivial
theorem head2.tw5808627018042227393 : True := trivial
theorem head2.tw5891768726180387863 : True := trivial
theorem head2.tw5901771356940183787 : True := trivial
theorem head2.tw5983828049111590624 : True := trivial
theorem head2.tw5985075070595770558 : True := trivial
theorem head2.tw6041016439107379793 : True := trivial
theorem head2.tw6073860591624951003 : True := trivial
theorem head2.tw6079948111579658038 : True := trivial
theorem head2.tw6082193852289885408 : True := trivial
theorem head2.tw609246686160840994 : True := trivial
theorem head2.tw609712018750551058 : True := trivial
theorem head2.tw6108164586815630607 : True := trivial
theorem head2.tw6135890784038659434 : True := trivial
theorem head2.tw6136599152635846062 : True := trivial
theorem head2.tw6171765215016982660 : True := trivial
theorem head2.tw6177464241693029358 : True := trivial
theorem head2.tw6190200813724896451 : True := trivial
theorem head2.tw6225089112657155796 : True := trivial
theorem head2.tw6276783528024021765 : True := trivial
theorem head2.tw6285862155656957297 : True := trivial
theorem head2.tw6354819302684402937 : True := trivial
theorem head2.tw6359706657540229707 : True := trivial
theorem head2.tw6367202842134761244 : True := trivial
theorem head2.tw6492657772209857193 : True := trivial
theorem head2.tw6498113756645600858 : True := trivial
theorem head2.tw653601101287063800 : True := trivial
theorem head2.tw6542324264777996284 : True := trivial
theorem head2.tw655181707679552827 : True := trivial
theorem head2.tw6554837730651965543 : True := trivial
theorem head2.tw6561234566727434613 : True := trivial
theorem head2.tw6598351667183964951 : True := trivial
theorem head2.tw6610795271933729536 : True := trivial
theorem head2.tw662110173258019873 : True := trivial
theorem head2.tw6626089028942391013 : True := trivial
theorem head2.tw6631080171164657098 : True := trivial
theorem head2.tw6656453345512137249 : True := trivial
theorem head2.tw6691351517404137865 : True := trivial
theorem head2.tw6737104175119623716 : True := trivial
theorem head2.tw6773671130074693028 : True := trivial
theorem head2.tw6807157611535414824 : True := trivial
theorem head2.tw6819062792402256914 : True := trivial
theorem head2.tw6863566655250804213 : True := trivial
theorem head2.tw6874646361107984789 : True := trivial
theorem head2.tw6877232296140955952 : True := trivial
theorem head2.tw6887160988231965911 : True := trivial
theorem head2.tw6889538288817221046 : True := trivial
theorem head2.tw690921118618577523 : True := trivial
theorem head2.tw6936592068925263019 : True := trivial
theorem head2.tw6962913875848824594 : True := trivial
theorem head2.tw6964900266728909004 : True := trivial
theorem head2.tw6980591254432867595 : True := trivial
theorem head2.tw6988677732163739562 : True := trivial
theorem head2.tw7035147223679837145 : True := trivial
theorem head2.tw7036799436428548370 : True := trivial
theorem head2.tw7050886023822944063 : True := trivial
theorem head2.tw7052581306678661867 : True := trivial
theorem head2.tw7066238708756732899 : True := trivial
theorem head2.tw7088085119905342794 : True := trivial
theorem head2.tw7088591395835412311 : True := trivial
theorem head2.tw7089881391071532124 : True := trivial
theorem head2.tw7115963945227368612 : True := trivial
theorem head2.tw721203368229136804 : True := trivial
theorem head2.tw7232509575769568384 : True := trivial
theorem head2.tw7245635042719815302 : True := trivial
theorem head2.tw7254595376035140054 : True := trivial
theorem head2.tw7279604645704997573 : True := trivial
theorem head2.tw7334665778871001308 : True := trivial
theorem head2.tw7350145299563721932 : True := trivial
theorem head2.tw7425911046351314547 : True := trivial
theorem head2.tw744015056834175926 : True := trivial
theorem head2.tw7523655161899655061 : True := trivial
theorem head2.tw7528233402361651307 : True := trivial
theorem head2.tw7576371093889858464 : True := trivial
theorem head2.tw7611472285617836901 : True := trivial
theorem head2.tw761494606297607016 : True := trivial
theorem head2.tw764690000623356780 : True := trivial
theorem head2.tw7648111442690064565 : True := trivial
theorem head2.tw7662919199859556477 : True := trivial
theorem head2.tw7687543342953380546 : True := trivial
theorem head2.tw7695125636902108833 : True := trivial
theorem head2.tw7701294541019871309 : True := trivial
theorem head2.tw7704751798827006678 : True := trivial
theorem head2.tw7722462661364299877 : True := trivial
theorem head2.tw7757675699823994605 : True := trivial
theorem head2.tw7781058427169286301 : True := trivial
theorem head2.tw782692130073172573 : True := trivial
theorem head2.tw7905034783116349399 : True := trivial
theorem head2.tw7968490165893018917 : True := trivial
theorem head2.tw8005420503826391820 : True := trivial
theorem head2.tw8020347543684844477 : True := trivial
theorem head2.tw8037659808798320346 : True := trivial
theorem head2.tw8089288700332497116 : True := trivial
theorem head2.tw8094825892852736601 : True := trivial
theorem head2.tw8112314515757336751 : True := trivial
theorem head2.tw8116918902246358339 : True := trivial
theorem head2.tw8130370772575668226 : True := trivial
theorem head2.tw8143653856735960408 : True := trivial
theorem head2.tw8212174016684427811 : True := trivial
theorem head2.tw8221022090794049492 : True := trivial
theorem head2.tw8225182197303285917 : True := trivial
theorem head2.tw8252623790014009024 : True := trivial
theorem head2.tw8277738510172840326 : True := trivial
theorem head2.tw8361446591734013165 : True := trivial
theorem head2.tw8382619256685591859 : True := trivial
theorem head2.tw8387324493980704814 : True := trivial
theorem head2.tw8462324600881264269 : True := trivial
theorem head2.tw8527200508555688770 : True := trivial
theorem head2.tw8596016316809135922 : True := trivial
theorem head2.tw8602066312510108943 : True := trivial
theorem head2.tw8624901799724165136 : True := trivial
theorem head2.tw8639431161037526161 : True := trivial
theorem head2.tw8656408967170154414 : True := trivial
theorem head2.tw8714849714848597771 : True := trivial
theorem head2.tw8718877571604501915 : True := trivial
theorem head2.tw8735818898173462003 : True := trivial
theorem head2.tw8770951889896592549 : True := trivial
theorem head2.tw8795619861773096085 : True := trivial
theorem head2.tw8832522495710077443 : True := trivial
theorem head2.tw8843340616294364069 : True := trivial
theorem head2.tw8873777534578226776 : True := trivial
theorem head2.tw8890161205710906194 : True := trivial
theorem head2.tw8945884750568305306 : True := trivial
theorem head2.tw8959685754904126702 : True := trivial
theorem head2.tw8962238710282575663 : True := trivial
theorem head2.tw8981717728153358457 : True := trivial
theorem head2.tw8985253689474829416 : True := trivial
theorem head2.tw90573746037273485 : True := trivial
theorem head2.tw9065687014318481493 : True := trivial
theorem head2.tw9067019281611072702 : True := trivial
theorem head2.tw9078244066295803352 : True := trivial
theorem head2.tw9080266611183023539 : True := trivial
theorem head2.tw9087680977013463861 : True := trivial
theorem head2.tw9098134393188711965 : True := trivial
theorem head2.tw9172304394636544818 : True := trivial
theorem head2.tw9206388168959315444 : True := trivial
theorem head2.tw9224334138014680762 : True := trivial
theorem head2.tw9272871231663413804 : True := trivial
theorem head2.tw9283144111271453732 : True := trivial
theorem head2.tw9296243777479167526 : True := trivial
theorem head2.tw9377298078068485978 : True := trivial
theorem head2.tw9410245110044312445 : True := trivial
theorem head2.tw9424297491614578438 : True := trivial
theorem head2.tw9440954199314893535 : True := trivial
theorem head2.tw9445495627101838023 : True := trivial
theorem head2.tw9496294242785861829 : True := trivial
theorem head2.tw9503788688469552504 : True := trivial
theorem head2.tw9527432891444717191 : True := trivial
theorem head2.tw9597120995823811653 : True := trivial
theorem head2.tw9615264057620630253 : True := trivial
theorem head2.tw962318280815018371 : True := trivial
theorem head2.tw9631634991348467408 : True := trivial
theorem head2.tw9636546617939493802 : True := trivial
theorem head2.tw9645811477637944650 : True := trivial
theorem head2.tw9656296310379890843 : True := trivial
theorem head2.tw9687363991303118969 : True := trivial
theorem head2.tw9697391666647998642 : True := trivial
theorem head2.tw9701592093741274540 : True := trivial
theorem head2.tw971375466590181851 : True := trivial
theorem head2.tw9718467431076626635 : True := trivial
theorem head2.tw9725888782195779054 : True := trivial
theorem head2.tw9758877971233856009 : True := trivial
theorem head2.tw9777998678356101859 : True := trivial
theorem head2.tw9844463937941885868 : True := trivial
theorem head2.tw9857272011729818895 : True := trivial
theorem head2.tw9951709616222876502 : True := trivial
theorem head2.tw9958371703896584574 : True := trivial
theorem head2.tw99696356015655531 : True := trivial
theorem head2.tw9979736640002934590 : True := trivial
set_option Elab.async true in
set_option maxRecDepth 100000 in
set_option maxHeartbeats 0 in
theorem head2 : PySem.Challenge.rw_oz0057_02.Holds := by
  w_on
  o_law
  o_head (kHook K2 ((nat_lit 2)::(nat_lit 3)::(nat_lit 43)::(nat_lit 45)::(nat_lit 46)::(nat_lit 48)::(nat_lit 49)::(nat_lit 50)::(nat_lit 57)::(nat_lit 58)::(nat_lit 59)::(nat_lit 60)::(nat_lit 70)::(nat_lit 71)::(nat_lit 72)::(nat_lit 74)::(nat_lit 75)::(nat_lit 77)::(nat_lit 78)::(nat_lit 79)::(nat_lit 81)::(nat_lit 82)::(nat_lit 84)::(nat_lit 85)::(nat_lit 86)::(nat_lit 87)::(nat_lit 88)::(nat_lit 89)::(nat_lit 90)::(nat_lit 92)::(nat_lit 93)::(nat_lit 95)::(nat_lit 96)::(nat_lit 97)::(nat_lit 99)::(nat_lit 100)::(nat_lit 102)::(nat_lit 103)::(nat_lit 104)::(nat_lit 106)::(nat_lit 107)::(nat_lit 109)::(nat_lit 110)::(nat_lit 111)::(nat_lit 113)::(nat_lit 114)::(nat_lit 116)::(nat_lit 117)::(nat_lit 118)::(nat_lit 119)::(nat_lit 121)::(nat_lit 122)::(nat_lit 124)::(nat_lit 125)::(nat_lit 126)::(nat_lit 128)::(nat_lit 129)::(nat_lit 131)::(nat_lit 132)::(nat_lit 133)::(nat_lit 135)::(nat_lit 136)::(nat_lit 138)::(nat_lit 139)::(nat_lit 140)::(nat_lit 142)::(nat_lit 143)::(nat_lit 145)::(nat_lit 146)::(nat_lit 147)::(nat_lit 148)::(nat_lit 150)::(nat_lit 151)::(nat_lit 153)::(nat_lit 154)::(nat_lit 155)::(nat_lit 156)::(nat_lit 158)::(nat_lit 159)::(nat_lit 161)::(nat_lit 162)::(nat_lit 163)::(nat_lit 164)::(nat_lit 166)::(nat_lit 167)::(nat_lit 169)::(nat_lit 170)::(nat_lit 171)::(nat_lit 172)::(nat_lit 174)::(nat_lit 175)::(nat_lit 177)::(nat_lit 178)::(nat_lit 179)::(nat_lit 180)::(nat_lit 182)::(nat_lit 183)::(nat_lit 185)::(nat_lit 186)::(nat_lit 187)::(nat_lit 189)::(nat_lit 190)::(nat_lit 192)::(nat_lit 193)::(nat_lit 194)::(nat_lit 196)::(nat_lit 197)::(nat_lit 199)::(nat_lit 200)::(nat_lit 201)::(nat_lit 203)::(nat_lit 204)::(nat_lit 206)::(nat_lit 207)::(nat_lit 208)::(nat_lit 210)::(nat_lit 211)::(nat_lit 213)::(nat_lit 214)::(nat_lit 215)::(nat_lit 217)::(nat_lit 218)::(nat_lit 220)::(nat_lit 221)::(nat_lit 222)::(nat_lit 224)::(nat_lit 225)::(nat_lit 227)::(nat_lit 228)::(nat_lit 229)::(nat_lit 231)::(nat_lit 232)::(nat_lit 234)::(nat_lit 235)::(nat_lit 236)::(nat_lit 238)::(nat_lit 239)::(nat_lit 241)::(nat_lit 242)::(nat_lit 243)::(nat_lit 245)::(nat_lit 246)::(nat_lit 248)::(nat_lit 249)::(nat_lit 250)::(nat_lit 252)::(nat_lit 253)::(nat_lit 255)::(nat_lit 256)::(nat_lit 257)::(nat_lit 259)::(nat_lit 260)::(nat_lit 262)::(nat_lit 263)::(nat_lit 264)::(nat_lit 269)::(nat_lit 270)::(nat_lit 271)::(nat_lit 272)::(nat_lit 275)::(nat_lit 277)::(nat_lit 278)::(nat_lit 280)::(nat_lit 281)::(nat_lit 282)::(nat_lit 284)::(nat_lit 285)::(nat_lit 287)::(nat_lit 288)::(nat_lit 289)::(nat_lit 291)::(nat_lit 292)::(nat_lit 294)::(nat_lit 295)::(nat_lit 296)::(nat_lit 299)::(nat_lit 300)::[]) (fun _ => by kernel_rfl))
  case hw => w_witness2
  exact walkT2
end Mine

end Head
theorem PySem.Challenge.cw_oz0057_02_holds : PySem.Challenge.rw_oz0057_02.Holds := by
  exact Mine.head2

