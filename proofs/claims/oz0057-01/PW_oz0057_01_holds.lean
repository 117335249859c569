import PyProof.Rows.All
import Wide.All
import OpenK.AllK
import Wide.FinOn
import Lean
import PySem.Challenge.RW_oz0057_01
set_option Elab.async false
section HK1
open PySem PySem.W PySem.Calls PyProof.Rows
set_option Elab.async false
set_option linter.unusedVariables false
namespace Mine
def fnAt (l : List Stmt) (i : Nat) : Option (Arguments × List Stmt × Scope) := match l[i]? with | some (.FunctionDef _ a b _ _ _ s _ _ _) => some (a, b, s) | _ => none
def clAt (l : List Stmt) (i : Nat) : List Stmt := match l[i]? with | some (.ClassDef _ _ _ b _ _ _ _ _ _ _) => b | _ => []
set_option maxRecDepth 100000 in
set_option maxHeartbeats 0 in
noncomputable def K1 : Params → Frag := fun P =>
  letI a__wall : Arguments := _
  letI b__wall : List Stmt := _
  letI s__wall : Scope := _
  haveI : fnAt PySem.Challenge.pw_oz0057_01.main.body 1 = some (a__wall, b__wall, s__wall) := rfl
  letI a_NormalDist___init__ : Arguments := _
  letI b_NormalDist___init__ : List Stmt := _
  letI s_NormalDist___init__ : Scope := _
  haveI : fnAt (clAt PySem.Challenge.pw_oz0057_01.main.body 4) 1 = some (a_NormalDist___init__, b_NormalDist___init__, s_NormalDist___init__) := rfl
  letI a_NormalDist_from_samples : Arguments := _
  letI b_NormalDist_from_samples : List Stmt := _
  letI s_NormalDist_from_samples : Scope := _
  haveI : fnAt (clAt PySem.Challenge.pw_oz0057_01.main.body 4) 2 = some (a_NormalDist_from_samples, b_NormalDist_from_samples, s_NormalDist_from_samples) := rfl
  letI a_NormalDist_samples : Arguments := _
  letI b_NormalDist_samples : List Stmt := _
  letI s_NormalDist_samples : Scope := _
  haveI : fnAt (clAt PySem.Challenge.pw_oz0057_01.main.body 4) 3 = some (a_NormalDist_samples, b_NormalDist_samples, s_NormalDist_samples) := rfl
  letI a_NormalDist_pdf : Arguments := _
  letI b_NormalDist_pdf : List Stmt := _
  letI s_NormalDist_pdf : Scope := _
  haveI : fnAt (clAt PySem.Challenge.pw_oz0057_01.main.body 4) 4 = some (a_NormalDist_pdf, b_NormalDist_pdf, s_NormalDist_pdf) := rfl
  letI a_NormalDist_cdf : Arguments := _
  letI b_NormalDist_cdf : List Stmt := _
  letI s_NormalDist_cdf : Scope := _
  haveI : fnAt (clAt PySem.Challenge.pw_oz0057_01.main.body 4) 5 = some (a_NormalDist_cdf, b_NormalDist_cdf, s_NormalDist_cdf) := rfl
  letI a_NormalDist_inv_cdf : Arguments := _
  letI b_NormalDist_inv_cdf : List Stmt := _
  letI s_NormalDist_inv_cdf : Scope := _
  haveI : fnAt (clAt PySem.Challenge.pw_oz0057_01.main.body 4) 6 = some (a_NormalDist_inv_cdf, b_NormalDist_inv_cdf, s_NormalDist_inv_cdf) := rfl
  letI a_NormalDist_quantiles : Arguments := _
  letI b_NormalDist_quantiles : List Stmt := _
  letI s_NormalDist_quantiles : Scope := _
  haveI : fnAt (clAt PySem.Challenge.pw_oz0057_01.main.body 4) 7 = some (a_NormalDist_quantiles, b_NormalDist_quantiles, s_NormalDist_quantiles) := rfl
  letI a_NormalDist_overlap : Arguments := _
  letI b_NormalDist_overlap : List Stmt := _
  letI s_NormalDist_overlap : Scope := _
  haveI : fnAt (clAt PySem.Challenge.pw_oz0057_01.main.body 4) 8 = some (a_NormalDist_overlap, b_NormalDist_overlap, s_NormalDist_overlap) := rfl
  letI a_NormalDist_zscore : Arguments := _
  letI b_NormalDist_zscore : List Stmt := _
  letI s_NormalDist_zscore : Scope := _
  haveI : fnAt (clAt PySem.Challenge.pw_oz0057_01.main.body 4) 9 = some (a_NormalDist_zscore, b_NormalDist_zscore, s_NormalDist_zscore) := rfl
  letI a_NormalDist_mean : Arguments := _
  letI b_NormalDist_mean : List Stmt := _
  letI s_NormalDist_mean : Scope := _
  haveI : fnAt (clAt PySem.Challenge.pw_oz0057_01.main.body 4) 10 = some (a_NormalDist_mean, b_NormalDist_mean, s_NormalDist_mean) := rfl
  letI a_NormalDist_median : Arguments := _
  letI b_NormalDist_median : List Stmt := _
  letI s_NormalDist_median : Scope := _
  haveI : fnAt (clAt PySem.Challenge.pw_oz0057_01.main.body 4) 11 = some (a_NormalDist_median, b_NormalDist_median, s_NormalDist_median) := rfl
  letI a_NormalDist_mode : Arguments := _
  letI b_NormalDist_mode : List Stmt := _
  letI s_NormalDist_mode : Scope := _
  haveI : fnAt (clAt PySem.Challenge.pw_oz0057_01.main.body 4) 12 = some (a_NormalDist_mode, b_NormalDist_mode, s_NormalDist_mode) := rfl
  letI a_NormalDist_stdev : Arguments := _
  letI b_NormalDist_stdev : List Stmt := _
  letI s_NormalDist_stdev : Scope := _
  haveI : fnAt (clAt PySem.Challenge.pw_oz0057_01.main.body 4) 13 = some (a_NormalDist_stdev, b_NormalDist_stdev, s_NormalDist_stdev) := rfl
  letI a_NormalDist_variance : Arguments := _
  letI b_NormalDist_variance : List Stmt := _
  letI s_NormalDist_variance : Scope := _
  haveI : fnAt (clAt PySem.Challenge.pw_oz0057_01.main.body 4) 14 = some (a_NormalDist_variance, b_NormalDist_variance, s_NormalDist_variance) := rfl
  letI a_NormalDist___add__ : Arguments := _
  letI b_NormalDist___add__ : List Stmt := _
  letI s_NormalDist___add__ : Scope := _
  haveI : fnAt (clAt PySem.Challenge.pw_oz0057_01.main.body 4) 15 = some (a_NormalDist___add__, b_NormalDist___add__, s_NormalDist___add__) := rfl
  letI a_NormalDist___sub__ : Arguments := _
  letI b_NormalDist___sub__ : List Stmt := _
  letI s_NormalDist___sub__ : Scope := _
  haveI : fnAt (clAt PySem.Challenge.pw_oz0057_01.main.body 4) 16 = some (a_NormalDist___sub__, b_NormalDist___sub__, s_NormalDist___sub__) := rfl
  letI a_NormalDist___mul__ : Arguments := _
  letI b_NormalDist___mul__ : List Stmt := _
  letI s_NormalDist___mul__ : Scope := _
  haveI : fnAt (clAt PySem.Challenge.pw_oz0057_01.main.body 4) 17 = some (a_NormalDist___mul__, b_NormalDist___mul__, s_NormalDist___mul__) := rfl
  letI a_NormalDist___truediv__ : Arguments := _
  letI b_NormalDist___truediv__ : List Stmt := _
  letI s_NormalDist___truediv__ : Scope := _
  haveI : fnAt (clAt PySem.Challenge.pw_oz0057_01.main.body 4) 18 = some (a_NormalDist___truediv__, b_NormalDist___truediv__, s_NormalDist___truediv__) := rfl
  letI a_NormalDist___pos__ : Arguments := _
  letI b_NormalDist___pos__ : List Stmt := _
  letI s_NormalDist___pos__ : Scope := _
  haveI : fnAt (clAt PySem.Challenge.pw_oz0057_01.main.body 4) 19 = some (a_NormalDist___pos__, b_NormalDist___pos__, s_NormalDist___pos__) := rfl
  letI a_NormalDist___neg__ : Arguments := _
  letI b_NormalDist___neg__ : List Stmt := _
  letI s_NormalDist___neg__ : Scope := _
  haveI : fnAt (clAt PySem.Challenge.pw_oz0057_01.main.body 4) 20 = some (a_NormalDist___neg__, b_NormalDist___neg__, s_NormalDist___neg__) := rfl
  letI a_NormalDist___rsub__ : Arguments := _
  letI b_NormalDist___rsub__ : List Stmt := _
  letI s_NormalDist___rsub__ : Scope := _
  haveI : fnAt (clAt PySem.Challenge.pw_oz0057_01.main.body 4) 22 = some (a_NormalDist___rsub__, b_NormalDist___rsub__, s_NormalDist___rsub__) := rfl
  letI a_NormalDist___eq__ : Arguments := _
  letI b_NormalDist___eq__ : List Stmt := _
  letI s_NormalDist___eq__ : Scope := _
  haveI : fnAt (clAt PySem.Challenge.pw_oz0057_01.main.body 4) 24 = some (a_NormalDist___eq__, b_NormalDist___eq__, s_NormalDist___eq__) := rfl
  letI a_NormalDist___hash__ : Arguments := _
  letI b_NormalDist___hash__ : List Stmt := _
  letI s_NormalDist___hash__ : Scope := _
  haveI : fnAt (clAt PySem.Challenge.pw_oz0057_01.main.body 4) 25 = some (a_NormalDist___hash__, b_NormalDist___hash__, s_NormalDist___hash__) := rfl
  letI a_NormalDist___repr__ : Arguments := _
  letI b_NormalDist___repr__ : List Stmt := _
  letI s_NormalDist___repr__ : Scope := _
  haveI : fnAt (clAt PySem.Challenge.pw_oz0057_01.main.body 4) 26 = some (a_NormalDist___repr__, b_NormalDist___repr__, s_NormalDist___repr__) := rfl
  letI a_NormalDist___getstate__ : Arguments := _
  letI b_NormalDist___getstate__ : List Stmt := _
  letI s_NormalDist___getstate__ : Scope := _
  haveI : fnAt (clAt PySem.Challenge.pw_oz0057_01.main.body 4) 27 = some (a_NormalDist___getstate__, b_NormalDist___getstate__, s_NormalDist___getstate__) := rfl
  letI a_NormalDist___setstate__ : Arguments := _
  letI b_NormalDist___setstate__ : List Stmt := _
  letI s_NormalDist___setstate__ : Scope := _
  haveI : fnAt (clAt PySem.Challenge.pw_oz0057_01.main.body 4) 28 = some (a_NormalDist___setstate__, b_NormalDist___setstate__, s_NormalDist___setstate__) := rfl
  letI a__law_near : Arguments := _
  letI b__law_near : List Stmt := _
  letI s__law_near : Scope := _
  haveI : fnAt PySem.Challenge.pw_oz0057_01.main.body 6 = some (a__law_near, b__law_near, s__law_near) := rfl
  letI a__law_turned : Arguments := _
  letI b__law_turned : List Stmt := _
  letI s__law_turned : Scope := _
  haveI : fnAt PySem.Challenge.pw_oz0057_01.main.body 7 = some (a__law_turned, b__law_turned, s__law_turned) := rfl
  letI a__law_back : Arguments := _
  letI b__law_back : List Stmt := _
  letI s__law_back : Scope := _
  haveI : fnAt PySem.Challenge.pw_oz0057_01.main.body 8 = some (a__law_back, b__law_back, s__law_back) := rfl
  letI a__law_told : Arguments := _
  letI b__law_told : List Stmt := _
  letI s__law_told : Scope := _
  haveI : fnAt PySem.Challenge.pw_oz0057_01.main.body 9 = some (a__law_told, b__law_told, s__law_told) := rfl
  letI a_law : Arguments := _
  letI b_law : List Stmt := _
  letI s_law : Scope := _
  haveI : fnAt PySem.Challenge.pw_oz0057_01.main.body 10 = some (a_law, b_law, s_law) := rfl
((nat_lit 2),⟨.none,none,(.dict (List.toArray [⟨(PySem.PyData.keyHash P (Str.ofString "\x69mport.loaded.math")),(.str (Str.ofString "\x69mport.loaded.math") 186),(.bool true)⟩,⟨(PySem.PyData.keyHash P (Str.ofString "class._frozen_\x69mportlib_external._LoaderBasics")),(.str (Str.ofString "class._frozen_\x69mportlib_external._LoaderBasics") 191),(.ref 16)⟩,⟨(PySem.PyData.keyHash P (Str.ofString "watched.\x69mport")),(.str (Str.ofString "watched.\x69mport") 207),(.ref 20)⟩,⟨(PySem.PyData.keyHash P (Str.ofString "class._frozen_\x69mportlib_external.FileLoader")),(.str (Str.ofString "class._frozen_\x69mportlib_external.FileLoader") 208),(.ref 22)⟩,⟨(PySem.PyData.keyHash P (Str.ofString "class._frozen_\x69mportlib_external.ExtensionFileLoader")),(.str (Str.ofString "class._frozen_\x69mportlib_external.ExtensionFileLoader") 229),(.ref 27)⟩,⟨(PySem.PyData.keyHash P (Str.ofString "class._frozen_\x69mportlib.ModuleSpec")),(.str (Str.ofString "class._frozen_\x69mportlib.ModuleSpec") 257),(.ref 33)⟩,⟨(PySem.PyData.keyHash P (Str.ofString "sys.modules.booked-epoch")),(.str (Str.ofString "sys.modules.booked-epoch") 286),(.int (@OfNat.ofNat Int (nat_lit 3) (@instOfNat (nat_lit 3))) 0)⟩,⟨(PySem.PyData.keyHash P (Str.ofString "\x69mport.later-laid.math")),(.str (Str.ofString "\x69mport.later-laid.math") 362),(.bool true)⟩,⟨(PySem.PyData.keyHash P (Str.ofString "watched.library")),(.str (Str.ofString "watched.library") 364),(.ref 38)⟩,⟨(PySem.PyData.keyHash P (Str.ofString "watched.library-objects")),(.str (Str.ofString "watched.library-objects") 0),(.str (Str.ofString "\x0d") 0)⟩]) 10),(List.toArray [])⟩)::
((nat_lit 3),⟨(.type "dict"),none,(.dict (List.toArray [⟨(PySem.PyData.keyHash P (Str.ofString "__name__")),(.str (Str.ofString "__name__") 165),(.str (Str.ofString "law_oz0057_01") 659)⟩,⟨(PySem.PyData.keyHash P (Str.ofString "__doc__")),(.str (Str.ofString "__doc__") 166),.none⟩,⟨(PySem.PyData.keyHash P (Str.ofString "__package__")),(.str (Str.ofString "__package__") 167),.none⟩,⟨(PySem.PyData.keyHash P (Str.ofString "__loader__")),(.str (Str.ofString "__loader__") 168),(.builtin "__main__.__loader__#opaque")⟩,⟨(PySem.PyData.keyHash P (Str.ofString "__spec__")),(.str (Str.ofString "__spec__") 169),.none⟩,⟨(PySem.PyData.keyHash P (Str.ofString "__annotations__")),(.str (Str.ofString "__annotations__") 170),(.ref 6)⟩,⟨(PySem.PyData.keyHash P (Str.ofString "__builtins__")),(.str (Str.ofString "__builtins__") 171),(.ref 4)⟩,⟨(PySem.PyData.keyHash P (Str.ofString "__file__")),(.str (Str.ofString "__file__") 173),(.str (Str.ofString "/claim/cut.py") 172)⟩,⟨(PySem.PyData.keyHash P (Str.ofString "__cached__")),(.str (Str.ofString "__cached__") 174),.none⟩,⟨(PySem.PyData.keyHash P (Str.ofString "fabs")),(.str (Str.ofString "fabs") 370),(.builtin "math.fabs")⟩,⟨(PySem.PyData.keyHash P (Str.ofString "hypot")),(.str (Str.ofString "hypot") 373),(.builtin "math.hypot")⟩,⟨(PySem.PyData.keyHash P (Str.ofString "_wall")),(.str (Str.ofString "_wall") 386),(.ref 49)⟩,⟨(PySem.PyData.keyHash P (Str.ofString "StatisticsError")),(.str (Str.ofString "StatisticsError") 406),(.ref 59)⟩,⟨(PySem.PyData.keyHash P (Str.ofString "NormalDist")),(.str (Str.ofString "NormalDist") 658),(.ref 270)⟩,⟨(PySem.PyData.keyHash P (Str.ofString "_law_near")),(.str (Str.ofString "_law_near") 668),(.ref 281)⟩,⟨(PySem.PyData.keyHash P (Str.ofString "_law_turned")),(.str (Str.ofString "_law_turned") 681),(.ref 288)⟩,⟨(PySem.PyData.keyHash P (Str.ofString "_law_back")),(.str (Str.ofString "_law_back") 695),(.ref 295)⟩,⟨(PySem.PyData.keyHash P (Str.ofString "_law_told")),(.str (Str.ofString "_law_told") 701),(.ref 300)⟩,⟨(PySem.PyData.keyHash P (Str.ofString "law")),(.str (Str.ofString "law") 732),(.ref 307)⟩]) 19),(List.toArray [])⟩)::
((nat_lit 43),⟨(.type "tuple"),none,(.seq (List.toArray []) 0),(List.toArray [])⟩)::
((nat_lit 45),⟨(.type "tuple"),none,(.seq (List.toArray [(.str (Str.ofString "k") 383)]) 0),(List.toArray [])⟩)::
((nat_lit 46),⟨(.type "tuple"),none,(.seq (List.toArray []) 0),(List.toArray [])⟩)::
((nat_lit 48),⟨(.type "code"),none,(.fields (List.toArray [(.str (Str.ofString "_wall") 380),(.str (Str.ofString "_wall") 381),(.str (Str.ofString "/claim/cut.py") 382),(.int (@OfNat.ofNat Int (nat_lit 2) (@instOfNat (nat_lit 2))) 0),(.int (@OfNat.ofNat Int (nat_lit 1) (@instOfNat (nat_lit 1))) 0),(.int (@OfNat.ofNat Int (nat_lit 0) (@instOfNat (nat_lit 0))) 0),(.int (@OfNat.ofNat Int (nat_lit 0) (@instOfNat (nat_lit 0))) 0),(.int (@OfNat.ofNat Int (nat_lit 3) (@instOfNat (nat_lit 3))) 0),(.ref 43),(.bool true),(.int (@OfNat.ofNat Int (nat_lit 374) (@instOfNat (nat_lit 374))) 0),(.ref 44),.none,(.ref 45),(.ref 46),(.ref 47),(.int (@OfNat.ofNat Int (nat_lit 384) (@instOfNat (nat_lit 384))) 0),(.int (@OfNat.ofNat Int (nat_lit 2) (@instOfNat (nat_lit 2))) 0),(.str (Str.ofString "/claim/cut.py") 385)])),(List.toArray [])⟩)::
((nat_lit 49),⟨(.type "function"),none,(.func ⟨(Str.ofString "_wall"),(Str.ofString "_wall"),a__wall,(.stmts b__wall),s__wall,3,[],.none,.none,.none,(.str (Str.ofString "__main__") 164),none,(.ref 48),.none,0⟩),(List.toArray [])⟩)::
((nat_lit 50),⟨(.type "tuple"),none,(.seq (List.toArray [(.type "ValueError")]) 0),(List.toArray [])⟩)::
((nat_lit 57),⟨(.type "tuple"),none,(.seq (List.toArray []) 0),(List.toArray [])⟩)::
((nat_lit 58),⟨(.type "dict"),none,(.dict (List.toArray [⟨(PySem.PyData.keyHash P (Str.ofString "__module__")),(.str (Str.ofString "__module__") 396),(.str (Str.ofString "cpy313.statistics") 387)⟩,⟨(PySem.PyData.keyHash P (Str.ofString "__firstlineno__")),(.str (Str.ofString "__firstlineno__") 400),(.int (@OfNat.ofNat Int (nat_lit 6) (@instOfNat (nat_lit 6))) 399)⟩,⟨(PySem.PyData.keyHash P (Str.ofString "__static_attributes__")),(.str (Str.ofString "__static_attributes__") 401),(.ref 57)⟩,⟨(PySem.PyData.keyHash P (Str.ofString "__weakref__")),(.str (Str.ofString "__weakref__") 403),(.ref 60)⟩,⟨(PySem.PyData.keyHash P (Str.ofString "__doc__")),(.str (Str.ofString "__doc__") 404),.none⟩]) 3),(List.toArray [])⟩)::
((nat_lit 59),⟨(.type "type"),none,(.cls ⟨(Str.ofString "StatisticsError"),[(.type "ValueError")],[(.ref 59),(.type "ValueError"),(.type "Exception"),(.type "BaseException"),(.type "object")],58,(Str.ofString "StatisticsError"),true,[],[],false,none,false⟩),(List.toArray [(some (.ref 50)),none,(some (.str (Str.ofString "StatisticsError") 389)),(some (.str (Str.ofString "StatisticsError") 397)),(some (.builtin "ValueError.__new__")),(some (.bool true))])⟩)::
((nat_lit 60),⟨(.type "getset_descriptor"),none,(.fields (List.toArray [(.str (Str.ofString "__weakref__") 402),(.ref 59),(.builtin "ExceptionGroup.__weakref__"),.none])),(List.toArray [])⟩)::
((nat_lit 70),⟨(.type "dict"),none,(.dict (List.toArray [⟨(PySem.PyData.keyHash P (Str.ofString "_mu")),(.str (Str.ofString "_mu") 419),(.str (Str.ofString "Arithmetic mean of a normal distribution") 420)⟩,⟨(PySem.PyData.keyHash P (Str.ofString "_sigma")),(.str (Str.ofString "_sigma") 421),(.str (Str.ofString "Standard deviation of a normal distribution") 422)⟩]) 2),(List.toArray [])⟩)::
((nat_lit 71),⟨(.type "tuple"),none,(.seq (List.toArray [(.float (@OfNat.ofNat UInt64 (nat_lit 0) (@UInt64.instOfNat (nat_lit 0))) 426),(.float (@OfNat.ofNat UInt64 (nat_lit 4607182418800017408) (@UInt64.instOfNat (nat_lit 4607182418800017408))) 427)]) 0),(List.toArray [])⟩)::
((nat_lit 72),⟨(.type "tuple"),none,(.seq (List.toArray []) 0),(List.toArray [])⟩)::
((nat_lit 74),⟨(.type "tuple"),none,(.seq (List.toArray [(.str (Str.ofString "self") 431),(.str (Str.ofString "mu") 432),(.str (Str.ofString "sigma") 433)]) 0),(List.toArray [])⟩)::
((nat_lit 75),⟨(.type "tuple"),none,(.seq (List.toArray []) 0),(List.toArray [])⟩)::
((nat_lit 77),⟨(.type "code"),none,(.fields (List.toArray [(.str (Str.ofString "__init__") 428),(.str (Str.ofString "NormalDist.__init__") 429),(.str (Str.ofString "/claim/cut.py") 430),(.int (@OfNat.ofNat Int (nat_lit 11) (@instOfNat (nat_lit 11))) 0),(.int (@OfNat.ofNat Int (nat_lit 3) (@instOfNat (nat_lit 3))) 0),(.int (@OfNat.ofNat Int (nat_lit 0) (@instOfNat (nat_lit 0))) 0),(.int (@OfNat.ofNat Int (nat_lit 0) (@instOfNat (nat_lit 0))) 0),(.int (@OfNat.ofNat Int (nat_lit 3) (@instOfNat (nat_lit 3))) 0),(.ref 72),(.bool true),(.int (@OfNat.ofNat Int (nat_lit 374) (@instOfNat (nat_lit 374))) 0),(.ref 73),.none,(.ref 74),(.ref 75),(.ref 76),(.int (@OfNat.ofNat Int (nat_lit 434) (@instOfNat (nat_lit 434))) 0),(.int (@OfNat.ofNat Int (nat_lit 11) (@instOfNat (nat_lit 11))) 0),(.str (Str.ofString "/claim/cut.py") 435)])),(List.toArray [])⟩)::
((nat_lit 78),⟨(.type "function"),none,(.func ⟨(Str.ofString "__init__"),(Str.ofString "NormalDist.__init__"),a_NormalDist___init__,(.stmts b_NormalDist___init__),s_NormalDist___init__,3,[],(.ref 71),.none,.none,(.str (Str.ofString "cpy313.statistics") 387),none,(.ref 77),.none,0⟩),(List.toArray [])⟩)::
((nat_lit 79),⟨(.type "tuple"),none,(.seq (List.toArray []) 0),(List.toArray [])⟩)::
((nat_lit 81),⟨(.type "tuple"),none,(.seq (List.toArray [(.str (Str.ofString "cls") 440),(.str (Str.ofString "data") 441)]) 0),(List.toArray [])⟩)::
((nat_lit 82),⟨(.type "tuple"),none,(.seq (List.toArray []) 0),(List.toArray [])⟩)::
((nat_lit 84),⟨(.type "code"),none,(.fields (List.toArray [(.str (Str.ofString "from_samples") 437),(.str (Str.ofString "NormalDist.from_samples") 438),(.str (Str.ofString "/claim/cut.py") 439),(.int (@OfNat.ofNat Int (nat_lit 17) (@instOfNat (nat_lit 17))) 0),(.int (@OfNat.ofNat Int (nat_lit 2) (@instOfNat (nat_lit 2))) 0),(.int (@OfNat.ofNat Int (nat_lit 0) (@instOfNat (nat_lit 0))) 0),(.int (@OfNat.ofNat Int (nat_lit 0) (@instOfNat (nat_lit 0))) 0),(.int (@OfNat.ofNat Int (nat_lit 3) (@instOfNat (nat_lit 3))) 0),(.ref 79),(.bool true),(.int (@OfNat.ofNat Int (nat_lit 374) (@instOfNat (nat_lit 374))) 0),(.ref 80),.none,(.ref 81),(.ref 82),(.ref 83),(.int (@OfNat.ofNat Int (nat_lit 442) (@instOfNat (nat_lit 442))) 0),(.int (@OfNat.ofNat Int (nat_lit 17) (@instOfNat (nat_lit 17))) 0),(.str (Str.ofString "/claim/cut.py") 443)])),(List.toArray [])⟩)::
((nat_lit 85),⟨(.type "function"),none,(.func ⟨(Str.ofString "from_samples"),(Str.ofString "NormalDist.from_samples"),a_NormalDist_from_samples,(.stmts b_NormalDist_from_samples),s_NormalDist_from_samples,3,[],.none,.none,.none,(.str (Str.ofString "cpy313.statistics") 387),(some 88),(.ref 84),.none,0⟩),(List.toArray [])⟩)::
((nat_lit 86),⟨(.type "dict"),none,(.dict (List.toArray [⟨(PySem.PyData.keyHash P (Str.ofString "__module__")),(.str (Str.ofString "__module__") 445),(.str (Str.ofString "cpy313.statistics") 387)⟩,⟨(PySem.PyData.keyHash P (Str.ofString "__name__")),(.str (Str.ofString "__name__") 448),(.str (Str.ofString "from_samples") 447)⟩,⟨(PySem.PyData.keyHash P (Str.ofString "__qualname__")),(.str (Str.ofString "__qualname__") 451),(.str (Str.ofString "NormalDist.from_samples") 450)⟩,⟨(PySem.PyData.keyHash P (Str.ofString "__doc__")),(.str (Str.ofString "__doc__") 453),.none⟩,⟨(PySem.PyData.keyHash P (Str.ofString "__annotations__")),(.str (Str.ofString "__annotations__") 455),(.ref 88)⟩]) 5),(List.toArray [])⟩)::
((nat_lit 87),⟨(.type "classmethod"),(some 86),(.fields (List.toArray [(.ref 85),(.bool false)])),(List.toArray [])⟩)::
((nat_lit 88),⟨(.type "dict"),none,(.dict (List.toArray []) 0),(List.toArray [])⟩)::
((nat_lit 89),⟨(.type "dict"),none,(.dict (List.toArray [⟨(PySem.PyData.keyHash P (Str.ofString "seed")),(.str (Str.ofString "seed") 457),.none⟩]) 1),(List.toArray [])⟩)::
((nat_lit 90),⟨(.type "tuple"),none,(.seq (List.toArray []) 0),(List.toArray [])⟩)::
((nat_lit 92),⟨(.type "tuple"),none,(.seq (List.toArray [(.str (Str.ofString "self") 461),(.str (Str.ofString "n") 462),(.str (Str.ofString "seed") 463)]) 0),(List.toArray [])⟩)::
((nat_lit 93),⟨(.type "tuple"),none,(.seq (List.toArray []) 0),(List.toArray [])⟩)::
((nat_lit 95),⟨(.type "code"),none,(.fields (List.toArray [(.str (Str.ofString "samples") 458),(.str (Str.ofString "NormalDist.samples") 459),(.str (Str.ofString "/claim/cut.py") 460),(.int (@OfNat.ofNat Int (nat_lit 21) (@instOfNat (nat_lit 21))) 0),(.int (@OfNat.ofNat Int (nat_lit 2) (@instOfNat (nat_lit 2))) 0),(.int (@OfNat.ofNat Int (nat_lit 0) (@instOfNat (nat_lit 0))) 0),(.int (@OfNat.ofNat Int (nat_lit 1) (@instOfNat (nat_lit 1))) 0),(.int (@OfNat.ofNat Int (nat_lit 3) (@instOfNat (nat_lit 3))) 0),(.ref 90),(.bool true),(.int (@OfNat.ofNat Int (nat_lit 374) (@instOfNat (nat_lit 374))) 0),(.ref 91),.none,(.ref 92),(.ref 93),(.ref 94),(.int (@OfNat.ofNat Int (nat_lit 464) (@instOfNat (nat_lit 464))) 0),(.int (@OfNat.ofNat Int (nat_lit 21) (@instOfNat (nat_lit 21))) 0),(.str (Str.ofString "/claim/cut.py") 465)])),(List.toArray [])⟩)::
((nat_lit 96),⟨(.type "function"),none,(.func ⟨(Str.ofString "samples"),(Str.ofString "NormalDist.samples"),a_NormalDist_samples,(.stmts b_NormalDist_samples),s_NormalDist_samples,3,[],.none,(.ref 89),.none,(.str (Str.ofString "cpy313.statistics") 387),none,(.ref 95),.none,0⟩),(List.toArray [])⟩)::
((nat_lit 97),⟨(.type "tuple"),none,(.seq (List.toArray []) 0),(List.toArray [])⟩)::
((nat_lit 99),⟨(.type "tuple"),none,(.seq (List.toArray [(.str (Str.ofString "self") 470),(.str (Str.ofString "x") 471)]) 0),(List.toArray [])⟩)::
((nat_lit 100),⟨(.type "tuple"),none,(.seq (List.toArray []) 0),(List.toArray [])⟩)::
((nat_lit 102),⟨(.type "code"),none,(.fields (List.toArray [(.str (Str.ofString "pdf") 467),(.str (Str.ofString "NormalDist.pdf") 468),(.str (Str.ofString "/claim/cut.py") 469),(.int (@OfNat.ofNat Int (nat_lit 24) (@instOfNat (nat_lit 24))) 0),(.int (@OfNat.ofNat Int (nat_lit 2) (@instOfNat (nat_lit 2))) 0),(.int (@OfNat.ofNat Int (nat_lit 0) (@instOfNat (nat_lit 0))) 0),(.int (@OfNat.ofNat Int (nat_lit 0) (@instOfNat (nat_lit 0))) 0),(.int (@OfNat.ofNat Int (nat_lit 3) (@instOfNat (nat_lit 3))) 0),(.ref 97),(.bool true),(.int (@OfNat.ofNat Int (nat_lit 374) (@instOfNat (nat_lit 374))) 0),(.ref 98),.none,(.ref 99),(.ref 100),(.ref 101),(.int (@OfNat.ofNat Int (nat_lit 472) (@instOfNat (nat_lit 472))) 0),(.int (@OfNat.ofNat Int (nat_lit 24) (@instOfNat (nat_lit 24))) 0),(.str (Str.ofString "/claim/cut.py") 473)])),(List.toArray [])⟩)::
((nat_lit 103),⟨(.type "function"),none,(.func ⟨(Str.ofString "pdf"),(Str.ofString "NormalDist.pdf"),a_NormalDist_pdf,(.stmts b_NormalDist_pdf),s_NormalDist_pdf,3,[],.none,.none,.none,(.str (Str.ofString "cpy313.statistics") 387),none,(.ref 102),.none,0⟩),(List.toArray [])⟩)::
((nat_lit 104),⟨(.type "tuple"),none,(.seq (List.toArray []) 0),(List.toArray [])⟩)::
((nat_lit 106),⟨(.type "tuple"),none,(.seq (List.toArray [(.str (Str.ofString "self") 478),(.str (Str.ofString "x") 479)]) 0),(List.toArray [])⟩)::
((nat_lit 107),⟨(.type "tuple"),none,(.seq (List.toArray []) 0),(List.toArray [])⟩)::
((nat_lit 109),⟨(.type "code"),none,(.fields (List.toArray [(.str (Str.ofString "cdf") 475),(.str (Str.ofString "NormalDist.cdf") 476),(.str (Str.ofString "/claim/cut.py") 477),(.int (@OfNat.ofNat Int (nat_lit 27) (@instOfNat (nat_lit 27))) 0),(.int (@OfNat.ofNat Int (nat_lit 2) (@instOfNat (nat_lit 2))) 0),(.int (@OfNat.ofNat Int (nat_lit 0) (@instOfNat (nat_lit 0))) 0),(.int (@OfNat.ofNat Int (nat_lit 0) (@instOfNat (nat_lit 0))) 0),(.int (@OfNat.ofNat Int (nat_lit 3) (@instOfNat (nat_lit 3))) 0),(.ref 104),(.bool true),(.int (@OfNat.ofNat Int (nat_lit 374) (@instOfNat (nat_lit 374))) 0),(.ref 105),.none,(.ref 106),(.ref 107),(.ref 108),(.int (@OfNat.ofNat Int (nat_lit 480) (@instOfNat (nat_lit 480))) 0),(.int (@OfNat.ofNat Int (nat_lit 27) (@instOfNat (nat_lit 27))) 0),(.str (Str.ofString "/claim/cut.py") 481)])),(List.toArray [])⟩)::
((nat_lit 110),⟨(.type "function"),none,(.func ⟨(Str.ofString "cdf"),(Str.ofString "NormalDist.cdf"),a_NormalDist_cdf,(.stmts b_NormalDist_cdf),s_NormalDist_cdf,3,[],.none,.none,.none,(.str (Str.ofString "cpy313.statistics") 387),none,(.ref 109),.none,0⟩),(List.toArray [])⟩)::
((nat_lit 111),⟨(.type "tuple"),none,(.seq (List.toArray []) 0),(List.toArray [])⟩)::
((nat_lit 113),⟨(.type "tuple"),none,(.seq (List.toArray [(.str (Str.ofString "self") 486),(.str (Str.ofString "p") 487)]) 0),(List.toArray [])⟩)::
((nat_lit 114),⟨(.type "tuple"),none,(.seq (List.toArray []) 0),(List.toArray [])⟩)::
((nat_lit 116),⟨(.type "code"),none,(.fields (List.toArray [(.str (Str.ofString "inv_cdf") 483),(.str (Str.ofString "NormalDist.inv_cdf") 484),(.str (Str.ofString "/claim/cut.py") 485),(.int (@OfNat.ofNat Int (nat_lit 30) (@instOfNat (nat_lit 30))) 0),(.int (@OfNat.ofNat Int (nat_lit 2) (@instOfNat (nat_lit 2))) 0),(.int (@OfNat.ofNat Int (nat_lit 0) (@instOfNat (nat_lit 0))) 0),(.int (@OfNat.ofNat Int (nat_lit 0) (@instOfNat (nat_lit 0))) 0),(.int (@OfNat.ofNat Int (nat_lit 3) (@instOfNat (nat_lit 3))) 0),(.ref 111),(.bool true),(.int (@OfNat.ofNat Int (nat_lit 374) (@instOfNat (nat_lit 374))) 0),(.ref 112),.none,(.ref 113),(.ref 114),(.ref 115),(.int (@OfNat.ofNat Int (nat_lit 488) (@instOfNat (nat_lit 488))) 0),(.int (@OfNat.ofNat Int (nat_lit 30) (@instOfNat (nat_lit 30))) 0),(.str (Str.ofString "/claim/cut.py") 489)])),(List.toArray [])⟩)::
((nat_lit 117),⟨(.type "function"),none,(.func ⟨(Str.ofString "inv_cdf"),(Str.ofString "NormalDist.inv_cdf"),a_NormalDist_inv_cdf,(.stmts b_NormalDist_inv_cdf),s_NormalDist_inv_cdf,3,[],.none,.none,.none,(.str (Str.ofString "cpy313.statistics") 387),none,(.ref 116),.none,0⟩),(List.toArray [])⟩)::
((nat_lit 118),⟨(.type "tuple"),none,(.seq (List.toArray [(.int (@OfNat.ofNat Int (nat_lit 4) (@instOfNat (nat_lit 4))) 491)]) 0),(List.toArray [])⟩)::
((nat_lit 119),⟨(.type "tuple"),none,(.seq (List.toArray []) 0),(List.toArray [])⟩)::
((nat_lit 121),⟨(.type "tuple"),none,(.seq (List.toArray [(.str (Str.ofString "self") 495),(.str (Str.ofString "n") 496)]) 0),(List.toArray [])⟩)::
((nat_lit 122),⟨(.type "tuple"),none,(.seq (List.toArray []) 0),(List.toArray [])⟩)::
((nat_lit 124),⟨(.type "code"),none,(.fields (List.toArray [(.str (Str.ofString "quantiles") 492),(.str (Str.ofString "NormalDist.quantiles") 493),(.str (Str.ofString "/claim/cut.py") 494),(.int (@OfNat.ofNat Int (nat_lit 33) (@instOfNat (nat_lit 33))) 0),(.int (@OfNat.ofNat Int (nat_lit 2) (@instOfNat (nat_lit 2))) 0),(.int (@OfNat.ofNat Int (nat_lit 0) (@instOfNat (nat_lit 0))) 0),(.int (@OfNat.ofNat Int (nat_lit 0) (@instOfNat (nat_lit 0))) 0),(.int (@OfNat.ofNat Int (nat_lit 3) (@instOfNat (nat_lit 3))) 0),(.ref 119),(.bool true),(.int (@OfNat.ofNat Int (nat_lit 374) (@instOfNat (nat_lit 374))) 0),(.ref 120),.none,(.ref 121),(.ref 122),(.ref 123),(.int (@OfNat.ofNat Int (nat_lit 497) (@instOfNat (nat_lit 497))) 0),(.int (@OfNat.ofNat Int (nat_lit 33) (@instOfNat (nat_lit 33))) 0),(.str (Str.ofString "/claim/cut.py") 498)])),(List.toArray [])⟩)::
((nat_lit 125),⟨(.type "function"),none,(.func ⟨(Str.ofString "quantiles"),(Str.ofString "NormalDist.quantiles"),a_NormalDist_quantiles,(.stmts b_NormalDist_quantiles),s_NormalDist_quantiles,3,[],(.ref 118),.none,.none,(.str (Str.ofString "cpy313.statistics") 387),none,(.ref 124),.none,0⟩),(List.toArray [])⟩)::
((nat_lit 126),⟨(.type "tuple"),none,(.seq (List.toArray []) 0),(List.toArray [])⟩)::
((nat_lit 128),⟨(.type "tuple"),none,(.seq (List.toArray [(.str (Str.ofString "self") 503),(.str (Str.ofString "other") 504)]) 0),(List.toArray [])⟩)::
((nat_lit 129),⟨(.type "tuple"),none,(.seq (List.toArray []) 0),(List.toArray [])⟩)::
((nat_lit 131),⟨(.type "code"),none,(.fields (List.toArray [(.str (Str.ofString "overlap") 500),(.str (Str.ofString "NormalDist.overlap") 501),(.str (Str.ofString "/claim/cut.py") 502),(.int (@OfNat.ofNat Int (nat_lit 36) (@instOfNat (nat_lit 36))) 0),(.int (@OfNat.ofNat Int (nat_lit 2) (@instOfNat (nat_lit 2))) 0),(.int (@OfNat.ofNat Int (nat_lit 0) (@instOfNat (nat_lit 0))) 0),(.int (@OfNat.ofNat Int (nat_lit 0) (@instOfNat (nat_lit 0))) 0),(.int (@OfNat.ofNat Int (nat_lit 3) (@instOfNat (nat_lit 3))) 0),(.ref 126),(.bool true),(.int (@OfNat.ofNat Int (nat_lit 374) (@instOfNat (nat_lit 374))) 0),(.ref 127),.none,(.ref 128),(.ref 129),(.ref 130),(.int (@OfNat.ofNat Int (nat_lit 505) (@instOfNat (nat_lit 505))) 0),(.int (@OfNat.ofNat Int (nat_lit 36) (@instOfNat (nat_lit 36))) 0),(.str (Str.ofString "/claim/cut.py") 506)])),(List.toArray [])⟩)::
((nat_lit 132),⟨(.type "function"),none,(.func ⟨(Str.ofString "overlap"),(Str.ofString "NormalDist.overlap"),a_NormalDist_overlap,(.stmts b_NormalDist_overlap),s_NormalDist_overlap,3,[],.none,.none,.none,(.str (Str.ofString "cpy313.statistics") 387),none,(.ref 131),.none,0⟩),(List.toArray [])⟩)::
((nat_lit 133),⟨(.type "tuple"),none,(.seq (List.toArray []) 0),(List.toArray [])⟩)::
((nat_lit 135),⟨(.type "tuple"),none,(.seq (List.toArray [(.str (Str.ofString "self") 511),(.str (Str.ofString "x") 512)]) 0),(List.toArray [])⟩)::
((nat_lit 136),⟨(.type "tuple"),none,(.seq (List.toArray []) 0),(List.toArray [])⟩)::
((nat_lit 138),⟨(.type "code"),none,(.fields (List.toArray [(.str (Str.ofString "zscore") 508),(.str (Str.ofString "NormalDist.zscore") 509),(.str (Str.ofString "/claim/cut.py") 510),(.int (@OfNat.ofNat Int (nat_lit 39) (@instOfNat (nat_lit 39))) 0),(.int (@OfNat.ofNat Int (nat_lit 2) (@instOfNat (nat_lit 2))) 0),(.int (@OfNat.ofNat Int (nat_lit 0) (@instOfNat (nat_lit 0))) 0),(.int (@OfNat.ofNat Int (nat_lit 0) (@instOfNat (nat_lit 0))) 0),(.int (@OfNat.ofNat Int (nat_lit 3) (@instOfNat (nat_lit 3))) 0),(.ref 133),(.bool true),(.int (@OfNat.ofNat Int (nat_lit 374) (@instOfNat (nat_lit 374))) 0),(.ref 134),.none,(.ref 135),(.ref 136),(.ref 137),(.int (@OfNat.ofNat Int (nat_lit 513) (@instOfNat (nat_lit 513))) 0),(.int (@OfNat.ofNat Int (nat_lit 39) (@instOfNat (nat_lit 39))) 0),(.str (Str.ofString "/claim/cut.py") 514)])),(List.toArray [])⟩)::
((nat_lit 139),⟨(.type "function"),none,(.func ⟨(Str.ofString "zscore"),(Str.ofString "NormalDist.zscore"),a_NormalDist_zscore,(.stmts b_NormalDist_zscore),s_NormalDist_zscore,3,[],.none,.none,.none,(.str (Str.ofString "cpy313.statistics") 387),none,(.ref 138),.none,0⟩),(List.toArray [])⟩)::
((nat_lit 140),⟨(.type "tuple"),none,(.seq (List.toArray []) 0),(List.toArray [])⟩)::
((nat_lit 142),⟨(.type "tuple"),none,(.seq (List.toArray [(.str (Str.ofString "self") 519)]) 0),(List.toArray [])⟩)::
((nat_lit 143),⟨(.type "tuple"),none,(.seq (List.toArray []) 0),(List.toArray [])⟩)::
((nat_lit 145),⟨(.type "code"),none,(.fields (List.toArray [(.str (Str.ofString "mean") 516),(.str (Str.ofString "NormalDist.mean") 517),(.str (Str.ofString "/claim/cut.py") 518),(.int (@OfNat.ofNat Int (nat_lit 42) (@instOfNat (nat_lit 42))) 0),(.int (@OfNat.ofNat Int (nat_lit 1) (@instOfNat (nat_lit 1))) 0),(.int (@OfNat.ofNat Int (nat_lit 0) (@instOfNat (nat_lit 0))) 0),(.int (@OfNat.ofNat Int (nat_lit 0) (@instOfNat (nat_lit 0))) 0),(.int (@OfNat.ofNat Int (nat_lit 3) (@instOfNat (nat_lit 3))) 0),(.ref 140),(.bool true),(.int (@OfNat.ofNat Int (nat_lit 374) (@instOfNat (nat_lit 374))) 0),(.ref 141),.none,(.ref 142),(.ref 143),(.ref 144),(.int (@OfNat.ofNat Int (nat_lit 520) (@instOfNat (nat_lit 520))) 0),(.int (@OfNat.ofNat Int (nat_lit 42) (@instOfNat (nat_lit 42))) 0),(.str (Str.ofString "/claim/cut.py") 521)])),(List.toArray [])⟩)::
((nat_lit 146),⟨(.type "function"),none,(.func ⟨(Str.ofString "mean"),(Str.ofString "NormalDist.mean"),a_NormalDist_mean,(.stmts b_NormalDist_mean),s_NormalDist_mean,3,[],.none,.none,.none,(.str (Str.ofString "cpy313.statistics") 387),none,(.ref 145),.none,0⟩),(List.toArray [])⟩)::
((nat_lit 147),⟨(.type "property"),none,(.fields (List.toArray [(.ref 146),.none,.none,.none,(.str (Str.ofString "mean") 523),(.bool false)])),(List.toArray [])⟩)::
((nat_lit 148),⟨(.type "tuple"),none,(.seq (List.toArray []) 0),(List.toArray [])⟩)::
((nat_lit 150),⟨(.type "tuple"),none,(.seq (List.toArray [(.str (Str.ofString "self") 527)]) 0),(List.toArray [])⟩)::
((nat_lit 151),⟨(.type "tuple"),none,(.seq (List.toArray []) 0),(List.toArray [])⟩)::
((nat_lit 153),⟨(.type "code"),none,(.fields (List.toArray [(.str (Str.ofString "median") 524),(.str (Str.ofString "NormalDist.median") 525),(.str (Str.ofString "/claim/cut.py") 526),(.int (@OfNat.ofNat Int (nat_lit 46) (@instOfNat (nat_lit 46))) 0),(.int (@OfNat.ofNat Int (nat_lit 1) (@instOfNat (nat_lit 1))) 0),(.int (@OfNat.ofNat Int (nat_lit 0) (@instOfNat (nat_lit 0))) 0),(.int (@OfNat.ofNat Int (nat_lit 0) (@instOfNat (nat_lit 0))) 0),(.int (@OfNat.ofNat Int (nat_lit 3) (@instOfNat (nat_lit 3))) 0),(.ref 148),(.bool true),(.int (@OfNat.ofNat Int (nat_lit 374) (@instOfNat (nat_lit 374))) 0),(.ref 149),.none,(.ref 150),(.ref 151),(.ref 152),(.int (@OfNat.ofNat Int (nat_lit 528) (@instOfNat (nat_lit 528))) 0),(.int (@OfNat.ofNat Int (nat_lit 46) (@instOfNat (nat_lit 46))) 0),(.str (Str.ofString "/claim/cut.py") 529)])),(List.toArray [])⟩)::
((nat_lit 154),⟨(.type "function"),none,(.func ⟨(Str.ofString "median"),(Str.ofString "NormalDist.median"),a_NormalDist_median,(.stmts b_NormalDist_median),s_NormalDist_median,3,[],.none,.none,.none,(.str (Str.ofString "cpy313.statistics") 387),none,(.ref 153),.none,0⟩),(List.toArray [])⟩)::
((nat_lit 155),⟨(.type "property"),none,(.fields (List.toArray [(.ref 154),.none,.none,.none,(.str (Str.ofString "median") 531),(.bool false)])),(List.toArray [])⟩)::
((nat_lit 156),⟨(.type "tuple"),none,(.seq (List.toArray []) 0),(List.toArray [])⟩)::
((nat_lit 158),⟨(.type "tuple"),none,(.seq (List.toArray [(.str (Str.ofString "self") 535)]) 0),(List.toArray [])⟩)::
((nat_lit 159),⟨(.type "tuple"),none,(.seq (List.toArray []) 0),(List.toArray [])⟩)::
((nat_lit 161),⟨(.type "code"),none,(.fields (List.toArray [(.str (Str.ofString "mode") 532),(.str (Str.ofString "NormalDist.mode") 533),(.str (Str.ofString "/claim/cut.py") 534),(.int (@OfNat.ofNat Int (nat_lit 50) (@instOfNat (nat_lit 50))) 0),(.int (@OfNat.ofNat Int (nat_lit 1) (@instOfNat (nat_lit 1))) 0),(.int (@OfNat.ofNat Int (nat_lit 0) (@instOfNat (nat_lit 0))) 0),(.int (@OfNat.ofNat Int (nat_lit 0) (@instOfNat (nat_lit 0))) 0),(.int (@OfNat.ofNat Int (nat_lit 3) (@instOfNat (nat_lit 3))) 0),(.ref 156),(.bool true),(.int (@OfNat.ofNat Int (nat_lit 374) (@instOfNat (nat_lit 374))) 0),(.ref 157),.none,(.ref 158),(.ref 159),(.ref 160),(.int (@OfNat.ofNat Int (nat_lit 536) (@instOfNat (nat_lit 536))) 0),(.int (@OfNat.ofNat Int (nat_lit 50) (@instOfNat (nat_lit 50))) 0),(.str (Str.ofString "/claim/cut.py") 537)])),(List.toArray [])⟩)::
((nat_lit 162),⟨(.type "function"),none,(.func ⟨(Str.ofString "mode"),(Str.ofString "NormalDist.mode"),a_NormalDist_mode,(.stmts b_NormalDist_mode),s_NormalDist_mode,3,[],.none,.none,.none,(.str (Str.ofString "cpy313.statistics") 387),none,(.ref 161),.none,0⟩),(List.toArray [])⟩)::
((nat_lit 163),⟨(.type "property"),none,(.fields (List.toArray [(.ref 162),.none,.none,.none,(.str (Str.ofString "mode") 539),(.bool false)])),(List.toArray [])⟩)::
((nat_lit 164),⟨(.type "tuple"),none,(.seq (List.toArray []) 0),(List.toArray [])⟩)::
((nat_lit 166),⟨(.type "tuple"),none,(.seq (List.toArray [(.str (Str.ofString "self") 543)]) 0),(List.toArray [])⟩)::
((nat_lit 167),⟨(.type "tuple"),none,(.seq (List.toArray []) 0),(List.toArray [])⟩)::
((nat_lit 169),⟨(.type "code"),none,(.fields (List.toArray [(.str (Str.ofString "stdev") 540),(.str (Str.ofString "NormalDist.stdev") 541),(.str (Str.ofString "/claim/cut.py") 542),(.int (@OfNat.ofNat Int (nat_lit 54) (@instOfNat (nat_lit 54))) 0),(.int (@OfNat.ofNat Int (nat_lit 1) (@instOfNat (nat_lit 1))) 0),(.int (@OfNat.ofNat Int (nat_lit 0) (@instOfNat (nat_lit 0))) 0),(.int (@OfNat.ofNat Int (nat_lit 0) (@instOfNat (nat_lit 0))) 0),(.int (@OfNat.ofNat Int (nat_lit 3) (@instOfNat (nat_lit 3))) 0),(.ref 164),(.bool true),(.int (@OfNat.ofNat Int (nat_lit 374) (@instOfNat (nat_lit 374))) 0),(.ref 165),.none,(.ref 166),(.ref 167),(.ref 168),(.int (@OfNat.ofNat Int (nat_lit 544) (@instOfNat (nat_lit 544))) 0),(.int (@OfNat.ofNat Int (nat_lit 54) (@instOfNat (nat_lit 54))) 0),(.str (Str.ofString "/claim/cut.py") 545)])),(List.toArray [])⟩)::
((nat_lit 170),⟨(.type "function"),none,(.func ⟨(Str.ofString "stdev"),(Str.ofString "NormalDist.stdev"),a_NormalDist_stdev,(.stmts b_NormalDist_stdev),s_NormalDist_stdev,3,[],.none,.none,.none,(.str (Str.ofString "cpy313.statistics") 387),none,(.ref 169),.none,0⟩),(List.toArray [])⟩)::
((nat_lit 171),⟨(.type "property"),none,(.fields (List.toArray [(.ref 170),.none,.none,.none,(.str (Str.ofString "stdev") 547),(.bool false)])),(List.toArray [])⟩)::
((nat_lit 172),⟨(.type "tuple"),none,(.seq (List.toArray []) 0),(List.toArray [])⟩)::
((nat_lit 174),⟨(.type "tuple"),none,(.seq (List.toArray [(.str (Str.ofString "self") 551)]) 0),(List.toArray [])⟩)::
((nat_lit 175),⟨(.type "tuple"),none,(.seq (List.toArray []) 0),(List.toArray [])⟩)::
((nat_lit 177),⟨(.type "code"),none,(.fields (List.toArray [(.str (Str.ofString "variance") 548),(.str (Str.ofString "NormalDist.variance") 549),(.str (Str.ofString "/claim/cut.py") 550),(.int (@OfNat.ofNat Int (nat_lit 58) (@instOfNat (nat_lit 58))) 0),(.int (@OfNat.ofNat Int (nat_lit 1) (@instOfNat (nat_lit 1))) 0),(.int (@OfNat.ofNat Int (nat_lit 0) (@instOfNat (nat_lit 0))) 0),(.int (@OfNat.ofNat Int (nat_lit 0) (@instOfNat (nat_lit 0))) 0),(.int (@OfNat.ofNat Int (nat_lit 3) (@instOfNat (nat_lit 3))) 0),(.ref 172),(.bool true),(.int (@OfNat.ofNat Int (nat_lit 374) (@instOfNat (nat_lit 374))) 0),(.ref 173),.none,(.ref 174),(.ref 175),(.ref 176),(.int (@OfNat.ofNat Int (nat_lit 552) (@instOfNat (nat_lit 552))) 0),(.int (@OfNat.ofNat Int (nat_lit 58) (@instOfNat (nat_lit 58))) 0),(.str (Str.ofString "/claim/cut.py") 553)])),(List.toArray [])⟩)::
((nat_lit 178),⟨(.type "function"),none,(.func ⟨(Str.ofString "variance"),(Str.ofString "NormalDist.variance"),a_NormalDist_variance,(.stmts b_NormalDist_variance),s_NormalDist_variance,3,[],.none,.none,.none,(.str (Str.ofString "cpy313.statistics") 387),none,(.ref 177),.none,0⟩),(List.toArray [])⟩)::
((nat_lit 179),⟨(.type "property"),none,(.fields (List.toArray [(.ref 178),.none,.none,.none,(.str (Str.ofString "variance") 555),(.bool false)])),(List.toArray [])⟩)::
((nat_lit 180),⟨(.type "tuple"),none,(.seq (List.toArray []) 0),(List.toArray [])⟩)::
((nat_lit 182),⟨(.type "tuple"),none,(.seq (List.toArray [(.str (Str.ofString "x1") 559),(.str (Str.ofString "x2") 560)]) 0),(List.toArray [])⟩)::
((nat_lit 183),⟨(.type "tuple"),none,(.seq (List.toArray []) 0),(List.toArray [])⟩)::
((nat_lit 185),⟨(.type "code"),none,(.fields (List.toArray [(.str (Str.ofString "__add__") 556),(.str (Str.ofString "NormalDist.__add__") 557),(.str (Str.ofString "/claim/cut.py") 558),(.int (@OfNat.ofNat Int (nat_lit 62) (@instOfNat (nat_lit 62))) 0),(.int (@OfNat.ofNat Int (nat_lit 2) (@instOfNat (nat_lit 2))) 0),(.int (@OfNat.ofNat Int (nat_lit 0) (@instOfNat (nat_lit 0))) 0),(.int (@OfNat.ofNat Int (nat_lit 0) (@instOfNat (nat_lit 0))) 0),(.int (@OfNat.ofNat Int (nat_lit 3) (@instOfNat (nat_lit 3))) 0),(.ref 180),(.bool true),(.int (@OfNat.ofNat Int (nat_lit 374) (@instOfNat (nat_lit 374))) 0),(.ref 181),.none,(.ref 182),(.ref 183),(.ref 184),(.int (@OfNat.ofNat Int (nat_lit 561) (@instOfNat (nat_lit 561))) 0),(.int (@OfNat.ofNat Int (nat_lit 62) (@instOfNat (nat_lit 62))) 0),(.str (Str.ofString "/claim/cut.py") 562)])),(List.toArray [])⟩)::
((nat_lit 186),⟨(.type "function"),none,(.func ⟨(Str.ofString "__add__"),(Str.ofString "NormalDist.__add__"),a_NormalDist___add__,(.stmts b_NormalDist___add__),s_NormalDist___add__,3,[],.none,.none,.none,(.str (Str.ofString "cpy313.statistics") 387),none,(.ref 185),.none,0⟩),(List.toArray [])⟩)::
((nat_lit 187),⟨(.type "tuple"),none,(.seq (List.toArray []) 0),(List.toArray [])⟩)::
((nat_lit 189),⟨(.type "tuple"),none,(.seq (List.toArray [(.str (Str.ofString "x1") 567),(.str (Str.ofString "x2") 568)]) 0),(List.toArray [])⟩)::
((nat_lit 190),⟨(.type "tuple"),none,(.seq (List.toArray []) 0),(List.toArray [])⟩)::
((nat_lit 192),⟨(.type "code"),none,(.fields (List.toArray [(.str (Str.ofString "__sub__") 564),(.str (Str.ofString "NormalDist.__sub__") 565),(.str (Str.ofString "/claim/cut.py") 566),(.int (@OfNat.ofNat Int (nat_lit 67) (@instOfNat (nat_lit 67))) 0),(.int (@OfNat.ofNat Int (nat_lit 2) (@instOfNat (nat_lit 2))) 0),(.int (@OfNat.ofNat Int (nat_lit 0) (@instOfNat (nat_lit 0))) 0),(.int (@OfNat.ofNat Int (nat_lit 0) (@instOfNat (nat_lit 0))) 0),(.int (@OfNat.ofNat Int (nat_lit 3) (@instOfNat (nat_lit 3))) 0),(.ref 187),(.bool true),(.int (@OfNat.ofNat Int (nat_lit 374) (@instOfNat (nat_lit 374))) 0),(.ref 188),.none,(.ref 189),(.ref 190),(.ref 191),(.int (@OfNat.ofNat Int (nat_lit 569) (@instOfNat (nat_lit 569))) 0),(.int (@OfNat.ofNat Int (nat_lit 67) (@instOfNat (nat_lit 67))) 0),(.str (Str.ofString "/claim/cut.py") 570)])),(List.toArray [])⟩)::
((nat_lit 193),⟨(.type "function"),none,(.func ⟨(Str.ofString "__sub__"),(Str.ofString "NormalDist.__sub__"),a_NormalDist___sub__,(.stmts b_NormalDist___sub__),s_NormalDist___sub__,3,[],.none,.none,.none,(.str (Str.ofString "cpy313.statistics") 387),none,(.ref 192),.none,0⟩),(List.toArray [])⟩)::
((nat_lit 194),⟨(.type "tuple"),none,(.seq (List.toArray []) 0),(List.toArray [])⟩)::
((nat_lit 196),⟨(.type "tuple"),none,(.seq (List.toArray [(.str (Str.ofString "x1") 575),(.str (Str.ofString "x2") 576)]) 0),(List.toArray [])⟩)::
((nat_lit 197),⟨(.type "tuple"),none,(.seq (List.toArray []) 0),(List.toArray [])⟩)::
((nat_lit 199),⟨(.type "code"),none,(.fields (List.toArray [(.str (Str.ofString "__mul__") 572),(.str (Str.ofString "NormalDist.__mul__") 573),(.str (Str.ofString "/claim/cut.py") 574),(.int (@OfNat.ofNat Int (nat_lit 72) (@instOfNat (nat_lit 72))) 0),(.int (@OfNat.ofNat Int (nat_lit 2) (@instOfNat (nat_lit 2))) 0),(.int (@OfNat.ofNat Int (nat_lit 0) (@instOfNat (nat_lit 0))) 0),(.int (@OfNat.ofNat Int (nat_lit 0) (@instOfNat (nat_lit 0))) 0),(.int (@OfNat.ofNat Int (nat_lit 3) (@instOfNat (nat_lit 3))) 0),(.ref 194),(.bool true),(.int (@OfNat.ofNat Int (nat_lit 374) (@instOfNat (nat_lit 374))) 0),(.ref 195),.none,(.ref 196),(.ref 197),(.ref 198),(.int (@OfNat.ofNat Int (nat_lit 577) (@instOfNat (nat_lit 577))) 0),(.int (@OfNat.ofNat Int (nat_lit 72) (@instOfNat (nat_lit 72))) 0),(.str (Str.ofString "/claim/cut.py") 578)])),(List.toArray [])⟩)::
((nat_lit 200),⟨(.type "function"),none,(.func ⟨(Str.ofString "__mul__"),(Str.ofString "NormalDist.__mul__"),a_NormalDist___mul__,(.stmts b_NormalDist___mul__),s_NormalDist___mul__,3,[],.none,.none,.none,(.str (Str.ofString "cpy313.statistics") 387),none,(.ref 199),.none,0⟩),(List.toArray [])⟩)::
((nat_lit 201),⟨(.type "tuple"),none,(.seq (List.toArray []) 0),(List.toArray [])⟩)::
((nat_lit 203),⟨(.type "tuple"),none,(.seq (List.toArray [(.str (Str.ofString "x1") 583),(.str (Str.ofString "x2") 584)]) 0),(List.toArray [])⟩)::
((nat_lit 204),⟨(.type "tuple"),none,(.seq (List.toArray []) 0),(List.toArray [])⟩)::
((nat_lit 206),⟨(.type "code"),none,(.fields (List.toArray [(.str (Str.ofString "__truediv__") 580),(.str (Str.ofString "NormalDist.__truediv__") 581),(.str (Str.ofString "/claim/cut.py") 582),(.int (@OfNat.ofNat Int (nat_lit 75) (@instOfNat (nat_lit 75))) 0),(.int (@OfNat.ofNat Int (nat_lit 2) (@instOfNat (nat_lit 2))) 0),(.int (@OfNat.ofNat Int (nat_lit 0) (@instOfNat (nat_lit 0))) 0),(.int (@OfNat.ofNat Int (nat_lit 0) (@instOfNat (nat_lit 0))) 0),(.int (@OfNat.ofNat Int (nat_lit 3) (@instOfNat (nat_lit 3))) 0),(.ref 201),(.bool true),(.int (@OfNat.ofNat Int (nat_lit 374) (@instOfNat (nat_lit 374))) 0),(.ref 202),.none,(.ref 203),(.ref 204),(.ref 205),(.int (@OfNat.ofNat Int (nat_lit 585) (@instOfNat (nat_lit 585))) 0),(.int (@OfNat.ofNat Int (nat_lit 75) (@instOfNat (nat_lit 75))) 0),(.str (Str.ofString "/claim/cut.py") 586)])),(List.toArray [])⟩)::
((nat_lit 207),⟨(.type "function"),none,(.func ⟨(Str.ofString "__truediv__"),(Str.ofString "NormalDist.__truediv__"),a_NormalDist___truediv__,(.stmts b_NormalDist___truediv__),s_NormalDist___truediv__,3,[],.none,.none,.none,(.str (Str.ofString "cpy313.statistics") 387),none,(.ref 206),.none,0⟩),(List.toArray [])⟩)::
((nat_lit 208),⟨(.type "tuple"),none,(.seq (List.toArray []) 0),(List.toArray [])⟩)::
((nat_lit 210),⟨(.type "tuple"),none,(.seq (List.toArray [(.str (Str.ofString "x1") 591)]) 0),(List.toArray [])⟩)::
((nat_lit 211),⟨(.type "tuple"),none,(.seq (List.toArray []) 0),(List.toArray [])⟩)::
((nat_lit 213),⟨(.type "code"),none,(.fields (List.toArray [(.str (Str.ofString "__pos__") 588),(.str (Str.ofString "NormalDist.__pos__") 589),(.str (Str.ofString "/claim/cut.py") 590),(.int (@OfNat.ofNat Int (nat_lit 78) (@instOfNat (nat_lit 78))) 0),(.int (@OfNat.ofNat Int (nat_lit 1) (@instOfNat (nat_lit 1))) 0),(.int (@OfNat.ofNat Int (nat_lit 0) (@instOfNat (nat_lit 0))) 0),(.int (@OfNat.ofNat Int (nat_lit 0) (@instOfNat (nat_lit 0))) 0),(.int (@OfNat.ofNat Int (nat_lit 3) (@instOfNat (nat_lit 3))) 0),(.ref 208),(.bool true),(.int (@OfNat.ofNat Int (nat_lit 374) (@instOfNat (nat_lit 374))) 0),(.ref 209),.none,(.ref 210),(.ref 211),(.ref 212),(.int (@OfNat.ofNat Int (nat_lit 592) (@instOfNat (nat_lit 592))) 0),(.int (@OfNat.ofNat Int (nat_lit 78) (@instOfNat (nat_lit 78))) 0),(.str (Str.ofString "/claim/cut.py") 593)])),(List.toArray [])⟩)::
((nat_lit 214),⟨(.type "function"),none,(.func ⟨(Str.ofString "__pos__"),(Str.ofString "NormalDist.__pos__"),a_NormalDist___pos__,(.stmts b_NormalDist___pos__),s_NormalDist___pos__,3,[],.none,.none,.none,(.str (Str.ofString "cpy313.statistics") 387),none,(.ref 213),.none,0⟩),(List.toArray [])⟩)::
((nat_lit 215),⟨(.type "tuple"),none,(.seq (List.toArray []) 0),(List.toArray [])⟩)::
((nat_lit 217),⟨(.type "tuple"),none,(.seq (List.toArray [(.str (Str.ofString "x1") 598)]) 0),(List.toArray [])⟩)::
((nat_lit 218),⟨(.type "tuple"),none,(.seq (List.toArray []) 0),(List.toArray [])⟩)::
((nat_lit 220),⟨(.type "code"),none,(.fields (List.toArray [(.str (Str.ofString "__neg__") 595),(.str (Str.ofString "NormalDist.__neg__") 596),(.str (Str.ofString "/claim/cut.py") 597),(.int (@OfNat.ofNat Int (nat_lit 81) (@instOfNat (nat_lit 81))) 0),(.int (@OfNat.ofNat Int (nat_lit 1) (@instOfNat (nat_lit 1))) 0),(.int (@OfNat.ofNat Int (nat_lit 0) (@instOfNat (nat_lit 0))) 0),(.int (@OfNat.ofNat Int (nat_lit 0) (@instOfNat (nat_lit 0))) 0),(.int (@OfNat.ofNat Int (nat_lit 3) (@instOfNat (nat_lit 3))) 0),(.ref 215),(.bool true),(.int (@OfNat.ofNat Int (nat_lit 374) (@instOfNat (nat_lit 374))) 0),(.ref 216),.none,(.ref 217),(.ref 218),(.ref 219),(.int (@OfNat.ofNat Int (nat_lit 599) (@instOfNat (nat_lit 599))) 0),(.int (@OfNat.ofNat Int (nat_lit 81) (@instOfNat (nat_lit 81))) 0),(.str (Str.ofString "/claim/cut.py") 600)])),(List.toArray [])⟩)::
((nat_lit 221),⟨(.type "function"),none,(.func ⟨(Str.ofString "__neg__"),(Str.ofString "NormalDist.__neg__"),a_NormalDist___neg__,(.stmts b_NormalDist___neg__),s_NormalDist___neg__,3,[],.none,.none,.none,(.str (Str.ofString "cpy313.statistics") 387),none,(.ref 220),.none,0⟩),(List.toArray [])⟩)::
((nat_lit 222),⟨(.type "tuple"),none,(.seq (List.toArray []) 0),(List.toArray [])⟩)::
((nat_lit 224),⟨(.type "tuple"),none,(.seq (List.toArray [(.str (Str.ofString "x1") 606),(.str (Str.ofString "x2") 607)]) 0),(List.toArray [])⟩)::
((nat_lit 225),⟨(.type "tuple"),none,(.seq (List.toArray []) 0),(List.toArray [])⟩)::
((nat_lit 227),⟨(.type "code"),none,(.fields (List.toArray [(.str (Str.ofString "__rsub__") 603),(.str (Str.ofString "NormalDist.__rsub__") 604),(.str (Str.ofString "/claim/cut.py") 605),(.int (@OfNat.ofNat Int (nat_lit 85) (@instOfNat (nat_lit 85))) 0),(.int (@OfNat.ofNat Int (nat_lit 2) (@instOfNat (nat_lit 2))) 0),(.int (@OfNat.ofNat Int (nat_lit 0) (@instOfNat (nat_lit 0))) 0),(.int (@OfNat.ofNat Int (nat_lit 0) (@instOfNat (nat_lit 0))) 0),(.int (@OfNat.ofNat Int (nat_lit 3) (@instOfNat (nat_lit 3))) 0),(.ref 222),(.bool true),(.int (@OfNat.ofNat Int (nat_lit 374) (@instOfNat (nat_lit 374))) 0),(.ref 223),.none,(.ref 224),(.ref 225),(.ref 226),(.int (@OfNat.ofNat Int (nat_lit 608) (@instOfNat (nat_lit 608))) 0),(.int (@OfNat.ofNat Int (nat_lit 85) (@instOfNat (nat_lit 85))) 0),(.str (Str.ofString "/claim/cut.py") 609)])),(List.toArray [])⟩)::
((nat_lit 228),⟨(.type "function"),none,(.func ⟨(Str.ofString "__rsub__"),(Str.ofString "NormalDist.__rsub__"),a_NormalDist___rsub__,(.stmts b_NormalDist___rsub__),s_NormalDist___rsub__,3,[],.none,.none,.none,(.str (Str.ofString "cpy313.statistics") 387),none,(.ref 227),.none,0⟩),(List.toArray [])⟩)::
((nat_lit 229),⟨(.type "tuple"),none,(.seq (List.toArray []) 0),(List.toArray [])⟩)::
((nat_lit 231),⟨(.type "tuple"),none,(.seq (List.toArray [(.str (Str.ofString "x1") 615),(.str (Str.ofString "x2") 616)]) 0),(List.toArray [])⟩)::
((nat_lit 232),⟨(.type "tuple"),none,(.seq (List.toArray []) 0),(List.toArray [])⟩)::
((nat_lit 234),⟨(.type "code"),none,(.fields (List.toArray [(.str (Str.ofString "__eq__") 612),(.str (Str.ofString "NormalDist.__eq__") 613),(.str (Str.ofString "/claim/cut.py") 614),(.int (@OfNat.ofNat Int (nat_lit 89) (@instOfNat (nat_lit 89))) 0),(.int (@OfNat.ofNat Int (nat_lit 2) (@instOfNat (nat_lit 2))) 0),(.int (@OfNat.ofNat Int (nat_lit 0) (@instOfNat (nat_lit 0))) 0),(.int (@OfNat.ofNat Int (nat_lit 0) (@instOfNat (nat_lit 0))) 0),(.int (@OfNat.ofNat Int (nat_lit 3) (@instOfNat (nat_lit 3))) 0),(.ref 229),(.bool true),(.int (@OfNat.ofNat Int (nat_lit 374) (@instOfNat (nat_lit 374))) 0),(.ref 230),.none,(.ref 231),(.ref 232),(.ref 233),(.int (@OfNat.ofNat Int (nat_lit 617) (@instOfNat (nat_lit 617))) 0),(.int (@OfNat.ofNat Int (nat_lit 89) (@instOfNat (nat_lit 89))) 0),(.str (Str.ofString "/claim/cut.py") 618)])),(List.toArray [])⟩)::
((nat_lit 235),⟨(.type "function"),none,(.func ⟨(Str.ofString "__eq__"),(Str.ofString "NormalDist.__eq__"),a_NormalDist___eq__,(.stmts b_NormalDist___eq__),s_NormalDist___eq__,3,[],.none,.none,.none,(.str (Str.ofString "cpy313.statistics") 387),none,(.ref 234),.none,0⟩),(List.toArray [])⟩)::
((nat_lit 236),⟨(.type "tuple"),none,(.seq (List.toArray []) 0),(List.toArray [])⟩)::
((nat_lit 238),⟨(.type "tuple"),none,(.seq (List.toArray [(.str (Str.ofString "self") 623)]) 0),(List.toArray [])⟩)::
((nat_lit 239),⟨(.type "tuple"),none,(.seq (List.toArray []) 0),(List.toArray [])⟩)::
((nat_lit 241),⟨(.type "code"),none,(.fields (List.toArray [(.str (Str.ofString "__hash__") 620),(.str (Str.ofString "NormalDist.__hash__") 621),(.str (Str.ofString "/claim/cut.py") 622),(.int (@OfNat.ofNat Int (nat_lit 94) (@instOfNat (nat_lit 94))) 0),(.int (@OfNat.ofNat Int (nat_lit 1) (@instOfNat (nat_lit 1))) 0),(.int (@OfNat.ofNat Int (nat_lit 0) (@instOfNat (nat_lit 0))) 0),(.int (@OfNat.ofNat Int (nat_lit 0) (@instOfNat (nat_lit 0))) 0),(.int (@OfNat.ofNat Int (nat_lit 3) (@instOfNat (nat_lit 3))) 0),(.ref 236),(.bool true),(.int (@OfNat.ofNat Int (nat_lit 374) (@instOfNat (nat_lit 374))) 0),(.ref 237),.none,(.ref 238),(.ref 239),(.ref 240),(.int (@OfNat.ofNat Int (nat_lit 624) (@instOfNat (nat_lit 624))) 0),(.int (@OfNat.ofNat Int (nat_lit 94) (@instOfNat (nat_lit 94))) 0),(.str (Str.ofString "/claim/cut.py") 625)])),(List.toArray [])⟩)::
((nat_lit 242),⟨(.type "function"),none,(.func ⟨(Str.ofString "__hash__"),(Str.ofString "NormalDist.__hash__"),a_NormalDist___hash__,(.stmts b_NormalDist___hash__),s_NormalDist___hash__,3,[],.none,.none,.none,(.str (Str.ofString "cpy313.statistics") 387),none,(.ref 241),.none,0⟩),(List.toArray [])⟩)::
((nat_lit 243),⟨(.type "tuple"),none,(.seq (List.toArray []) 0),(List.toArray [])⟩)::
((nat_lit 245),⟨(.type "tuple"),none,(.seq (List.toArray [(.str (Str.ofString "self") 630)]) 0),(List.toArray [])⟩)::
((nat_lit 246),⟨(.type "tuple"),none,(.seq (List.toArray []) 0),(List.toArray [])⟩)::
((nat_lit 248),⟨(.type "code"),none,(.fields (List.toArray [(.str (Str.ofString "__repr__") 627),(.str (Str.ofString "NormalDist.__repr__") 628),(.str (Str.ofString "/claim/cut.py") 629),(.int (@OfNat.ofNat Int (nat_lit 97) (@instOfNat (nat_lit 97))) 0),(.int (@OfNat.ofNat Int (nat_lit 1) (@instOfNat (nat_lit 1))) 0),(.int (@OfNat.ofNat Int (nat_lit 0) (@instOfNat (nat_lit 0))) 0),(.int (@OfNat.ofNat Int (nat_lit 0) (@instOfNat (nat_lit 0))) 0),(.int (@OfNat.ofNat Int (nat_lit 3) (@instOfNat (nat_lit 3))) 0),(.ref 243),(.bool true),(.int (@OfNat.ofNat Int (nat_lit 374) (@instOfNat (nat_lit 374))) 0),(.ref 244),.none,(.ref 245),(.ref 246),(.ref 247),(.int (@OfNat.ofNat Int (nat_lit 631) (@instOfNat (nat_lit 631))) 0),(.int (@OfNat.ofNat Int (nat_lit 97) (@instOfNat (nat_lit 97))) 0),(.str (Str.ofString "/claim/cut.py") 632)])),(List.toArray [])⟩)::
((nat_lit 249),⟨(.type "function"),none,(.func ⟨(Str.ofString "__repr__"),(Str.ofString "NormalDist.__repr__"),a_NormalDist___repr__,(.stmts b_NormalDist___repr__),s_NormalDist___repr__,3,[],.none,.none,.none,(.str (Str.ofString "cpy313.statistics") 387),none,(.ref 248),.none,0⟩),(List.toArray [])⟩)::
((nat_lit 250),⟨(.type "tuple"),none,(.seq (List.toArray []) 0),(List.toArray [])⟩)::
((nat_lit 252),⟨(.type "tuple"),none,(.seq (List.toArray [(.str (Str.ofString "self") 637)]) 0),(List.toArray [])⟩)::
((nat_lit 253),⟨(.type "tuple"),none,(.seq (List.toArray []) 0),(List.toArray [])⟩)::
((nat_lit 255),⟨(.type "code"),none,(.fields (List.toArray [(.str (Str.ofString "__getstate__") 634),(.str (Str.ofString "NormalDist.__getstate__") 635),(.str (Str.ofString "/claim/cut.py") 636),(.int (@OfNat.ofNat Int (nat_lit 100) (@instOfNat (nat_lit 100))) 0),(.int (@OfNat.ofNat Int (nat_lit 1) (@instOfNat (nat_lit 1))) 0),(.int (@OfNat.ofNat Int (nat_lit 0) (@instOfNat (nat_lit 0))) 0),(.int (@OfNat.ofNat Int (nat_lit 0) (@instOfNat (nat_lit 0))) 0),(.int (@OfNat.ofNat Int (nat_lit 3) (@instOfNat (nat_lit 3))) 0),(.ref 250),(.bool true),(.int (@OfNat.ofNat Int (nat_lit 374) (@instOfNat (nat_lit 374))) 0),(.ref 251),.none,(.ref 252),(.ref 253),(.ref 254),(.int (@OfNat.ofNat Int (nat_lit 638) (@instOfNat (nat_lit 638))) 0),(.int (@OfNat.ofNat Int (nat_lit 100) (@instOfNat (nat_lit 100))) 0),(.str (Str.ofString "/claim/cut.py") 639)])),(List.toArray [])⟩)::
((nat_lit 256),⟨(.type "function"),none,(.func ⟨(Str.ofString "__getstate__"),(Str.ofString "NormalDist.__getstate__"),a_NormalDist___getstate__,(.stmts b_NormalDist___getstate__),s_NormalDist___getstate__,3,[],.none,.none,.none,(.str (Str.ofString "cpy313.statistics") 387),none,(.ref 255),.none,0⟩),(List.toArray [])⟩)::
((nat_lit 257),⟨(.type "tuple"),none,(.seq (List.toArray []) 0),(List.toArray [])⟩)::
((nat_lit 259),⟨(.type "tuple"),none,(.seq (List.toArray [(.str (Str.ofString "self") 644),(.str (Str.ofString "state") 645)]) 0),(List.toArray [])⟩)::
((nat_lit 260),⟨(.type "tuple"),none,(.seq (List.toArray []) 0),(List.toArray [])⟩)::
((nat_lit 262),⟨(.type "code"),none,(.fields (List.toArray [(.str (Str.ofString "__setstate__") 641),(.str (Str.ofString "NormalDist.__setstate__") 642),(.str (Str.ofString "/claim/cut.py") 643),(.int (@OfNat.ofNat Int (nat_lit 103) (@instOfNat (nat_lit 103))) 0),(.int (@OfNat.ofNat Int (nat_lit 2) (@instOfNat (nat_lit 2))) 0),(.int (@OfNat.ofNat Int (nat_lit 0) (@instOfNat (nat_lit 0))) 0),(.int (@OfNat.ofNat Int (nat_lit 0) (@instOfNat (nat_lit 0))) 0),(.int (@OfNat.ofNat Int (nat_lit 3) (@instOfNat (nat_lit 3))) 0),(.ref 257),(.bool true),(.int (@OfNat.ofNat Int (nat_lit 374) (@instOfNat (nat_lit 374))) 0),(.ref 258),.none,(.ref 259),(.ref 260),(.ref 261),(.int (@OfNat.ofNat Int (nat_lit 646) (@instOfNat (nat_lit 646))) 0),(.int (@OfNat.ofNat Int (nat_lit 103) (@instOfNat (nat_lit 103))) 0),(.str (Str.ofString "/claim/cut.py") 647)])),(List.toArray [])⟩)::
((nat_lit 263),⟨(.type "function"),none,(.func ⟨(Str.ofString "__setstate__"),(Str.ofString "NormalDist.__setstate__"),a_NormalDist___setstate__,(.stmts b_NormalDist___setstate__),s_NormalDist___setstate__,3,[],.none,.none,.none,(.str (Str.ofString "cpy313.statistics") 387),none,(.ref 262),.none,0⟩),(List.toArray [])⟩)::
((nat_lit 264),⟨(.type "tuple"),none,(.seq (List.toArray [(.str (Str.ofString "_mu") 649),(.str (Str.ofString "_sigma") 650)]) 0),(List.toArray [])⟩)::
((nat_lit 269),⟨(.type "dict"),none,(.dict (List.toArray [⟨(PySem.PyData.keyHash P (Str.ofString "__module__")),(.str (Str.ofString "__module__") 414),(.str (Str.ofString "cpy313.statistics") 387)⟩,⟨(PySem.PyData.keyHash P (Str.ofString "__firstlineno__")),(.str (Str.ofString "__firstlineno__") 418),(.int (@OfNat.ofNat Int (nat_lit 8) (@instOfNat (nat_lit 8))) 417)⟩,⟨(PySem.PyData.keyHash P (Str.ofString "__slots__")),(.str (Str.ofString "__slots__") 425),(.ref 70)⟩,⟨(PySem.PyData.keyHash P (Str.ofString "__init__")),(.str (Str.ofString "__init__") 436),(.ref 78)⟩,⟨(PySem.PyData.keyHash P (Str.ofString "from_samples")),(.str (Str.ofString "from_samples") 456),(.ref 87)⟩,⟨(PySem.PyData.keyHash P (Str.ofString "samples")),(.str (Str.ofString "samples") 466),(.ref 96)⟩,⟨(PySem.PyData.keyHash P (Str.ofString "pdf")),(.str (Str.ofString "pdf") 474),(.ref 103)⟩,⟨(PySem.PyData.keyHash P (Str.ofString "cdf")),(.str (Str.ofString "cdf") 482),(.ref 110)⟩,⟨(PySem.PyData.keyHash P (Str.ofString "inv_cdf")),(.str (Str.ofString "inv_cdf") 490),(.ref 117)⟩,⟨(PySem.PyData.keyHash P (Str.ofString "quantiles")),(.str (Str.ofString "quantiles") 499),(.ref 125)⟩,⟨(PySem.PyData.keyHash P (Str.ofString "overlap")),(.str (Str.ofString "overlap") 507),(.ref 132)⟩,⟨(PySem.PyData.keyHash P (Str.ofString "zscore")),(.str (Str.ofString "zscore") 515),(.ref 139)⟩,⟨(PySem.PyData.keyHash P (Str.ofString "mean")),(.str (Str.ofString "mean") 523),(.ref 147)⟩,⟨(PySem.PyData.keyHash P (Str.ofString "median")),(.str (Str.ofString "median") 531),(.ref 155)⟩,⟨(PySem.PyData.keyHash P (Str.ofString "mode")),(.str (Str.ofString "mode") 539),(.ref 163)⟩,⟨(PySem.PyData.keyHash P (Str.ofString "stdev")),(.str (Str.ofString "stdev") 547),(.ref 171)⟩,⟨(PySem.PyData.keyHash P (Str.ofString "variance")),(.str (Str.ofString "variance") 555),(.ref 179)⟩,⟨(PySem.PyData.keyHash P (Str.ofString "__add__")),(.str (Str.ofString "__add__") 563),(.ref 186)⟩,⟨(PySem.PyData.keyHash P (Str.ofString "__sub__")),(.str (Str.ofString "__sub__") 571),(.ref 193)⟩,⟨(PySem.PyData.keyHash P (Str.ofString "__mul__")),(.str (Str.ofString "__mul__") 579),(.ref 200)⟩,⟨(PySem.PyData.keyHash P (Str.ofString "__truediv__")),(.str (Str.ofString "__truediv__") 587),(.ref 207)⟩,⟨(PySem.PyData.keyHash P (Str.ofString "__pos__")),(.str (Str.ofString "__pos__") 594),(.ref 214)⟩,⟨(PySem.PyData.keyHash P (Str.ofString "__neg__")),(.str (Str.ofString "__neg__") 601),(.ref 221)⟩,⟨(PySem.PyData.keyHash P (Str.ofString "__radd__")),(.str (Str.ofString "__radd__") 602),(.ref 186)⟩,⟨(PySem.PyData.keyHash P (Str.ofString "__rsub__")),(.str (Str.ofString "__rsub__") 610),(.ref 228)⟩,⟨(PySem.PyData.keyHash P (Str.ofString "__rmul__")),(.str (Str.ofString "__rmul__") 611),(.ref 200)⟩,⟨(PySem.PyData.keyHash P (Str.ofString "__eq__")),(.str (Str.ofString "__eq__") 619),(.ref 235)⟩,⟨(PySem.PyData.keyHash P (Str.ofString "__hash__")),(.str (Str.ofString "__hash__") 626),(.ref 242)⟩,⟨(PySem.PyData.keyHash P (Str.ofString "__repr__")),(.str (Str.ofString "__repr__") 633),(.ref 249)⟩,⟨(PySem.PyData.keyHash P (Str.ofString "__getstate__")),(.str (Str.ofString "__getstate__") 640),(.ref 256)⟩,⟨(PySem.PyData.keyHash P (Str.ofString "__setstate__")),(.str (Str.ofString "__setstate__") 648),(.ref 263)⟩,⟨(PySem.PyData.keyHash P (Str.ofString "__static_attributes__")),(.str (Str.ofString "__static_attributes__") 651),(.ref 264)⟩,⟨(PySem.PyData.keyHash P (Str.ofString "_mu")),(.str (Str.ofString "_mu") 653),(.ref 271)⟩,⟨(PySem.PyData.keyHash P (Str.ofString "_sigma")),(.str (Str.ofString "_sigma") 655),(.ref 272)⟩,⟨(PySem.PyData.keyHash P (Str.ofString "__doc__")),(.str (Str.ofString "__doc__") 656),.none⟩]) 4),(List.toArray [])⟩)::
((nat_lit 270),⟨(.type "type"),none,(.cls ⟨(Str.ofString "NormalDist"),[(.type "object")],[(.ref 270),(.type "object")],269,(Str.ofString "NormalDist"),false,[(Str.ofString "_mu"),(Str.ofString "_sigma")],[],false,none,false⟩),(List.toArray [none,none,(some (.str (Str.ofString "NormalDist") 407)),(some (.str (Str.ofString "NormalDist") 415)),(some (.builtin "object.__new__")),(some (.bool false))])⟩)::
((nat_lit 271),⟨(.type "member_descriptor"),none,(.fields (List.toArray [(.str (Str.ofString "_mu") 652),(.ref 270),(.builtin "proto.slot"),(.builtin "proto.slot#set"),(.int (@OfNat.ofNat Int (nat_lit 1) (@instOfNat (nat_lit 1))) 0)])),(List.toArray [])⟩)::
((nat_lit 272),⟨(.type "member_descriptor"),none,(.fields (List.toArray [(.str (Str.ofString "_sigma") 654),(.ref 270),(.builtin "proto.slot"),(.builtin "proto.slot#set"),(.int (@OfNat.ofNat Int (nat_lit 0) (@instOfNat (nat_lit 0))) 0)])),(List.toArray [])⟩)::
((nat_lit 275),⟨(.type "tuple"),none,(.seq (List.toArray []) 0),(List.toArray [])⟩)::
((nat_lit 277),⟨(.type "tuple"),none,(.seq (List.toArray [(.str (Str.ofString "x") 664),(.str (Str.ofString "bound") 665)]) 0),(List.toArray [])⟩)::
((nat_lit 278),⟨(.type "tuple"),none,(.seq (List.toArray []) 0),(List.toArray [])⟩)::
((nat_lit 280),⟨(.type "code"),none,(.fields (List.toArray [(.str (Str.ofString "_law_near") 661),(.str (Str.ofString "_law_near") 662),(.str (Str.ofString "/claim/cut.py") 663),(.int (@OfNat.ofNat Int (nat_lit 106) (@instOfNat (nat_lit 106))) 0),(.int (@OfNat.ofNat Int (nat_lit 2) (@instOfNat (nat_lit 2))) 0),(.int (@OfNat.ofNat Int (nat_lit 0) (@instOfNat (nat_lit 0))) 0),(.int (@OfNat.ofNat Int (nat_lit 0) (@instOfNat (nat_lit 0))) 0),(.int (@OfNat.ofNat Int (nat_lit 3) (@instOfNat (nat_lit 3))) 0),(.ref 275),(.bool true),(.int (@OfNat.ofNat Int (nat_lit 374) (@instOfNat (nat_lit 374))) 0),(.ref 276),.none,(.ref 277),(.ref 278),(.ref 279),(.int (@OfNat.ofNat Int (nat_lit 666) (@instOfNat (nat_lit 666))) 0),(.int (@OfNat.ofNat Int (nat_lit 106) (@instOfNat (nat_lit 106))) 0),(.str (Str.ofString "/claim/cut.py") 667)])),(List.toArray [])⟩)::
((nat_lit 281),⟨(.type "function"),none,(.func ⟨(Str.ofString "_law_near"),(Str.ofString "_law_near"),a__law_near,(.stmts b__law_near),s__law_near,3,[],.none,.none,.none,(.str (Str.ofString "law_oz0057_01") 659),none,(.ref 280),.none,0⟩),(List.toArray [])⟩)::
((nat_lit 282),⟨(.type "tuple"),none,(.seq (List.toArray []) 0),(List.toArray [])⟩)::
((nat_lit 284),⟨(.type "tuple"),none,(.seq (List.toArray [(.str (Str.ofString "a") 672),(.str (Str.ofString "b") 673),(.str (Str.ofString "mirrored") 674),(.str (Str.ofString "pair") 675),(.str (Str.ofString "point") 676),(.str (Str.ofString "x") 677),(.str (Str.ofString "y") 678)]) 0),(List.toArray [])⟩)::
((nat_lit 285),⟨(.type "tuple"),none,(.seq (List.toArray []) 0),(List.toArray [])⟩)::
((nat_lit 287),⟨(.type "code"),none,(.fields (List.toArray [(.str (Str.ofString "_law_turned") 669),(.str (Str.ofString "_law_turned") 670),(.str (Str.ofString "/claim/cut.py") 671),(.int (@OfNat.ofNat Int (nat_lit 108) (@instOfNat (nat_lit 108))) 0),(.int (@OfNat.ofNat Int (nat_lit 5) (@instOfNat (nat_lit 5))) 0),(.int (@OfNat.ofNat Int (nat_lit 0) (@instOfNat (nat_lit 0))) 0),(.int (@OfNat.ofNat Int (nat_lit 0) (@instOfNat (nat_lit 0))) 0),(.int (@OfNat.ofNat Int (nat_lit 3) (@instOfNat (nat_lit 3))) 0),(.ref 282),(.bool true),(.int (@OfNat.ofNat Int (nat_lit 374) (@instOfNat (nat_lit 374))) 0),(.ref 283),.none,(.ref 284),(.ref 285),(.ref 286),(.int (@OfNat.ofNat Int (nat_lit 679) (@instOfNat (nat_lit 679))) 0),(.int (@OfNat.ofNat Int (nat_lit 108) (@instOfNat (nat_lit 108))) 0),(.str (Str.ofString "/claim/cut.py") 680)])),(List.toArray [])⟩)::
((nat_lit 288),⟨(.type "function"),none,(.func ⟨(Str.ofString "_law_turned"),(Str.ofString "_law_turned"),a__law_turned,(.stmts b__law_turned),s__law_turned,3,[],.none,.none,.none,(.str (Str.ofString "law_oz0057_01") 659),none,(.ref 287),.none,0⟩),(List.toArray [])⟩)::
((nat_lit 289),⟨(.type "tuple"),none,(.seq (List.toArray []) 0),(List.toArray [])⟩)::
((nat_lit 291),⟨(.type "tuple"),none,(.seq (List.toArray [(.str (Str.ofString "a") 685),(.str (Str.ofString "b") 686),(.str (Str.ofString "mirrored") 687),(.str (Str.ofString "pair") 688),(.str (Str.ofString "point") 689),(.str (Str.ofString "square") 690),(.str (Str.ofString "x") 691),(.str (Str.ofString "y") 692)]) 0),(List.toArray [])⟩)::
((nat_lit 292),⟨(.type "tuple"),none,(.seq (List.toArray []) 0),(List.toArray [])⟩)::
((nat_lit 294),⟨(.type "code"),none,(.fields (List.toArray [(.str (Str.ofString "_law_back") 682),(.str (Str.ofString "_law_back") 683),(.str (Str.ofString "/claim/cut.py") 684),(.int (@OfNat.ofNat Int (nat_lit 113) (@instOfNat (nat_lit 113))) 0),(.int (@OfNat.ofNat Int (nat_lit 5) (@instOfNat (nat_lit 5))) 0),(.int (@OfNat.ofNat Int (nat_lit 0) (@instOfNat (nat_lit 0))) 0),(.int (@OfNat.ofNat Int (nat_lit 0) (@instOfNat (nat_lit 0))) 0),(.int (@OfNat.ofNat Int (nat_lit 3) (@instOfNat (nat_lit 3))) 0),(.ref 289),(.bool true),(.int (@OfNat.ofNat Int (nat_lit 374) (@instOfNat (nat_lit 374))) 0),(.ref 290),.none,(.ref 291),(.ref 292),(.ref 293),(.int (@OfNat.ofNat Int (nat_lit 693) (@instOfNat (nat_lit 693))) 0),(.int (@OfNat.ofNat Int (nat_lit 113) (@instOfNat (nat_lit 113))) 0),(.str (Str.ofString "/claim/cut.py") 694)])),(List.toArray [])⟩)::
((nat_lit 295),⟨(.type "function"),none,(.func ⟨(Str.ofString "_law_back"),(Str.ofString "_law_back"),a__law_back,(.stmts b__law_back),s__law_back,3,[],.none,.none,.none,(.str (Str.ofString "law_oz0057_01") 659),none,(.ref 294),.none,0⟩),(List.toArray [])⟩)::
((nat_lit 296),⟨(.type "tuple"),none,(.seq (List.toArray []) 0),(List.toArray [])⟩)::
((nat_lit 299),⟨(.type "code"),none,(.fields (List.toArray [(.str (Str.ofString "_law_told") 696),(.str (Str.ofString "_law_told") 697),(.str (Str.ofString "/claim/cut.py") 698),(.int (@OfNat.ofNat Int (nat_lit 117) (@instOfNat (nat_lit 117))) 0),(.int (@OfNat.ofNat Int (nat_lit 1) (@instOfNat (nat_lit 1))) 0),(.int (@OfNat.ofNat Int (nat_lit 0) (@instOfNat (nat_lit 0))) 0),(.int (@OfNat.ofNat Int (nat_lit 0) (@instOfNat (nat_lit 0))) 0),(.int (@OfNat.ofNat Int (nat_lit 3) (@instOfNat (nat_lit 3))) 0),(.ref 296),(.bool true),(.int (@OfNat.ofNat Int (nat_lit 374) (@instOfNat (nat_lit 374))) 0),(.ref 297),.none,.none,.none,(.ref 298),(.int (@OfNat.ofNat Int (nat_lit 699) (@instOfNat (nat_lit 699))) 0),(.int (@OfNat.ofNat Int (nat_lit 117) (@instOfNat (nat_lit 117))) 0),(.str (Str.ofString "/claim/cut.py") 700)])),(List.toArray [])⟩)::
((nat_lit 300),⟨(.type "function"),none,(.func ⟨(Str.ofString "_law_told"),(Str.ofString "_law_told"),a__law_told,(.stmts b__law_told),s__law_told,3,[],.none,.none,.none,(.str (Str.ofString "law_oz0057_01") 659),none,(.ref 299),.none,0⟩),(List.toArray [])⟩)::
((nat_lit 301),⟨(.type "tuple"),none,(.seq (List.toArray []) 0),(List.toArray [])⟩)::
((nat_lit 303),⟨(.type "tuple"),none,(.seq (List.toArray [(.str (Str.ofString "script") 705),(.str (Str.ofString "row") 706),(.str (Str.ofString "far") 707),(.str (Str.ofString "i") 708),(.str (Str.ofString "n") 709),(.str (Str.ofString "ahead") 710),(.str (Str.ofString "v") 711),(.str (Str.ofString "p") 712),(.str (Str.ofString "q") 713),(.str (Str.ofString "c") 714),(.str (Str.ofString "d") 715),(.str (Str.ofString "size") 716),(.str (Str.ofString "mirrored") 717),(.str (Str.ofString "spread") 718),(.str (Str.ofString "first") 719),(.str (Str.ofString "point") 720),(.str (Str.ofString "due") 721),(.str (Str.ofString "pair") 722),(.str (Str.ofString "a") 723),(.str (Str.ofString "b") 724),(.str (Str.ofString "flipped") 725),(.str (Str.ofString "more") 726),(.str (Str.ofString "third") 727),(.str (Str.ofString "back") 728),(.str (Str.ofString "same") 729)]) 0),(List.toArray [])⟩)::
((nat_lit 304),⟨(.type "tuple"),none,(.seq (List.toArray []) 0),(List.toArray [])⟩)::
((nat_lit 306),⟨(.type "code"),none,(.fields (List.toArray [(.str (Str.ofString "law") 702),(.str (Str.ofString "law") 703),(.str (Str.ofString "/claim/cut.py") 704),(.int (@OfNat.ofNat Int (nat_lit 119) (@instOfNat (nat_lit 119))) 0),(.int (@OfNat.ofNat Int (nat_lit 1) (@instOfNat (nat_lit 1))) 0),(.int (@OfNat.ofNat Int (nat_lit 0) (@instOfNat (nat_lit 0))) 0),(.int (@OfNat.ofNat Int (nat_lit 0) (@instOfNat (nat_lit 0))) 0),(.int (@OfNat.ofNat Int (nat_lit 3) (@instOfNat (nat_lit 3))) 0),(.ref 301),(.bool true),(.int (@OfNat.ofNat Int (nat_lit 374) (@instOfNat (nat_lit 374))) 0),(.ref 302),.none,(.ref 303),(.ref 304),(.ref 305),(.int (@OfNat.ofNat Int (nat_lit 730) (@instOfNat (nat_lit 730))) 0),(.int (@OfNat.ofNat Int (nat_lit 119) (@instOfNat (nat_lit 119))) 0),(.str (Str.ofString "/claim/cut.py") 731)])),(List.toArray [])⟩)::
((nat_lit 307),⟨(.type "function"),none,(.func ⟨(Str.ofString "law"),(Str.ofString "law"),a_law,(.stmts b_law),s_law,3,[],.none,.none,.none,(.str (Str.ofString "law_oz0057_01") 659),none,(.ref 306),.none,0⟩),(List.toArray [])⟩)::[]
set_option maxRecDepth 100000 in
set_option maxHeartbeats 0 in
noncomputable def q1 : Program :=
  letI c0 : Stmt := _
  haveI : PySem.Challenge.pw_oz0057_01.main.body[0]? = some c0 := rfl
  letI c1 : Stmt := _
  haveI : PySem.Challenge.pw_oz0057_01.main.body[1]? = some c1 := rfl
  letI c3 : Stmt := _
  haveI : PySem.Challenge.pw_oz0057_01.main.body[3]? = some c3 := rfl
  letI c4 : Stmt := _
  haveI : PySem.Challenge.pw_oz0057_01.main.body[4]? = some c4 := rfl
  letI c6 : Stmt := _
  haveI : PySem.Challenge.pw_oz0057_01.main.body[6]? = some c6 := rfl
  letI c7 : Stmt := _
  haveI : PySem.Challenge.pw_oz0057_01.main.body[7]? = some c7 := rfl
  letI c8 : Stmt := _
  haveI : PySem.Challenge.pw_oz0057_01.main.body[8]? = some c8 := rfl
  letI c9 : Stmt := _
  haveI : PySem.Challenge.pw_oz0057_01.main.body[9]? = some c9 := rfl
  letI c10 : Stmt := _
  haveI : PySem.Challenge.pw_oz0057_01.main.body[10]? = some c10 := rfl
  { PySem.Challenge.pw_oz0057_01 with main := { PySem.Challenge.pw_oz0057_01.main with body := [c0, c1, c3, c4, c6, c7, c8, c9, c10] } }
set_option maxRecDepth 100000 in
set_option maxHeartbeats 0 in
def T1 : Prop :=
  letI d : DefRec := _
  haveI : defOf q1 PySem.Challenge.rw_oz0057_01.row.toRowW.name = some (d, []) := rfl
  WalkO q1 [Str.ofString "NormalDist"] (XL q1 []) (kHook K1 ((nat_lit 2)::(nat_lit 3)::(nat_lit 43)::(nat_lit 45)::(nat_lit 46)::(nat_lit 48)::(nat_lit 49)::(nat_lit 50)::(nat_lit 57)::(nat_lit 58)::(nat_lit 59)::(nat_lit 60)::(nat_lit 70)::(nat_lit 71)::(nat_lit 72)::(nat_lit 74)::(nat_lit 75)::(nat_lit 77)::(nat_lit 78)::(nat_lit 79)::(nat_lit 81)::(nat_lit 82)::(nat_lit 84)::(nat_lit 85)::(nat_lit 86)::(nat_lit 87)::(nat_lit 88)::(nat_lit 89)::(nat_lit 90)::(nat_lit 92)::(nat_lit 93)::(nat_lit 95)::(nat_lit 96)::(nat_lit 97)::(nat_lit 99)::(nat_lit 100)::(nat_lit 102)::(nat_lit 103)::(nat_lit 104)::(nat_lit 106)::(nat_lit 107)::(nat_lit 109)::(nat_lit 110)::(nat_lit 111)::(nat_lit 113)::(nat_lit 114)::(nat_lit 116)::(nat_lit 117)::(nat_lit 118)::(nat_lit 119)::(nat_lit 121)::(nat_lit 122)::(nat_lit 124)::(nat_lit 125)::(nat_lit 126)::(nat_lit 128)::(nat_lit 129)::(nat_lit 131)::(nat_lit 132)::(nat_lit 133)::(nat_lit 135)::(nat_lit 136)::(nat_lit 138)::(nat_lit 139)::(nat_lit 140)::(nat_lit 142)::(nat_lit 143)::(nat_lit 145)::(nat_lit 146)::(nat_lit 147)::(nat_lit 148)::(nat_lit 150)::(nat_lit 151)::(nat_lit 153)::(nat_lit 154)::(nat_lit 155)::(nat_lit 156)::(nat_lit 158)::(nat_lit 159)::(nat_lit 161)::(nat_lit 162)::(nat_lit 163)::(nat_lit 164)::(nat_lit 166)::(nat_lit 167)::(nat_lit 169)::(nat_lit 170)::(nat_lit 171)::(nat_lit 172)::(nat_lit 174)::(nat_lit 175)::(nat_lit 177)::(nat_lit 178)::(nat_lit 179)::(nat_lit 180)::(nat_lit 182)::(nat_lit 183)::(nat_lit 185)::(nat_lit 186)::(nat_lit 187)::(nat_lit 189)::(nat_lit 190)::(nat_lit 192)::(nat_lit 193)::(nat_lit 194)::(nat_lit 196)::(nat_lit 197)::(nat_lit 199)::(nat_lit 200)::(nat_lit 201)::(nat_lit 203)::(nat_lit 204)::(nat_lit 206)::(nat_lit 207)::(nat_lit 208)::(nat_lit 210)::(nat_lit 211)::(nat_lit 213)::(nat_lit 214)::(nat_lit 215)::(nat_lit 217)::(nat_lit 218)::(nat_lit 220)::(nat_lit 221)::(nat_lit 222)::(nat_lit 224)::(nat_lit 225)::(nat_lit 227)::(nat_lit 228)::(nat_lit 229)::(nat_lit 231)::(nat_lit 232)::(nat_lit 234)::(nat_lit 235)::(nat_lit 236)::(nat_lit 238)::(nat_lit 239)::(nat_lit 241)::(nat_lit 242)::(nat_lit 243)::(nat_lit 245)::(nat_lit 246)::(nat_lit 248)::(nat_lit 249)::(nat_lit 250)::(nat_lit 252)::(nat_lit 253)::(nat_lit 255)::(nat_lit 256)::(nat_lit 257)::(nat_lit 259)::(nat_lit 260)::(nat_lit 262)::(nat_lit 263)::(nat_lit 264)::(nat_lit 269)::(nat_lit 270)::(nat_lit 271)::(nat_lit 272)::(nat_lit 275)::(nat_lit 277)::(nat_lit 278)::(nat_lit 280)::(nat_lit 281)::(nat_lit 282)::(nat_lit 284)::(nat_lit 285)::(nat_lit 287)::(nat_lit 288)::(nat_lit 289)::(nat_lit 291)::(nat_lit 292)::(nat_lit 294)::(nat_lit 295)::(nat_lit 296)::(nat_lit 299)::(nat_lit 300)::(nat_lit 301)::(nat_lit 303)::(nat_lit 304)::(nat_lit 306)::(nat_lit 307)::[]) (fun _ => by kernel_rfl)).says PySem.Challenge.rw_oz0057_01.row.toRowW d [] (fun f vs => PySem.call f vs [])
end Mine

end HK1
section Refl
open PySem PySem.W PySem.Calls PyProof.Rows
set_option Elab.async false
namespace Mine
section
variable {prog : Program} {w : World} {A : Around} {E : Value → Shared → Prop} {s : Shared} {K : Frag} {x C L f f0 : Addr} {h₀ : Heap} {m : Str → Option Value} {ox : Obj} {od : Option Obj} {T : String}

theorem int_mul_plain (a : Int) (t : Tok) (l : Addr) (o : Obj) (ho : o.data = .plain) :
    Meets (Builtin.«int.__mul__» ⟨[.int a t, .ref l], []⟩) (fun _ R s => s.heap.get? l = some o ∧ R (.ok (.ret Value.notImplemented)) s) :=
  .of_wp fun prog w A R s h => by
    obtain ⟨hp, g, d, tk, os⟩ := s; obtain ⟨hl, h⟩ := h
    obtain ⟨c, di, da, sl⟩ := o
    dsimp only at ho
    subst ho
    wp_walk; exact ⟨_, rfl, h⟩
theorem float_sub_plain (a : UInt64) (t : Tok) (l : Addr) (o : Obj) (ho : o.data = .plain) :
    Meets (Builtin.«float.__sub__» ⟨[.float a t, .ref l], []⟩) (fun _ R s => s.heap.get? l = some o ∧ R (.ok (.ret Value.notImplemented)) s) :=
  .of_wp fun prog w A R s h => by
    obtain ⟨hp, g, d, tk, os⟩ := s; obtain ⟨hl, h⟩ := h
    obtain ⟨c, di, da, sl⟩ := o
    dsimp only at ho
    subst ho
    wp_walk; exact ⟨_, rfl, h⟩
theorem float_add_plain (a : UInt64) (t : Tok) (l : Addr) (o : Obj) (ho : o.data = .plain) :
    Meets (Builtin.«float.__add__» ⟨[.float a t, .ref l], []⟩) (fun _ R s => s.heap.get? l = some o ∧ R (.ok (.ret Value.notImplemented)) s) :=
  .of_wp fun prog w A R s h => by
    obtain ⟨hp, g, d, tk, os⟩ := s; obtain ⟨hl, h⟩ := h
    obtain ⟨c, di, da, sl⟩ := o
    dsimp only at ho
    subst ho
    wp_walk; exact ⟨_, rfl, h⟩

theorem rbin_K {op : Operator} {a : Value} {id : String} {Q : Value → Shared → Prop} (F : Fr h₀ L s.heap m) (X₀ : K.In h₀) (I : InstAt s.heap x ox C od) (ha : s.TypeIs a T) (ha' : typeOf a = pure (.type T)) (hc : selfFirst K C = true)
    (hfT : fillsNumberSlot (.type T) op.info.2 = pure true) (sl : Slot T (PySem.dunder op.info.2) id)
    (hs : findIn K (.ref C) (PySem.dunder op.info.2) = some (some (.ref f0))) (hr : findIn K (.ref C) (dunderR op.info.2) = some (some (.ref f))) (hf : isFn K (.ref f) = true)
    (hsub : subIn K (.ref C) (.type T) = some false)
    (hcall : ∀ Q' : Value → Shared → Prop, Q' .notImplemented s → wpAny (model prog w) A (call (.builtin id) [a, .ref x]) Q' E s)
    (h : wpAny (model prog w) A (call (.ref f) [.ref x, a]) (W.CmpBack Q) E s) : wpAny (model prog w) A (binaryOp op a (.ref x)) Q E s := by
  have X := X₀.keeps F.keep
  obtain ⟨cd, rest, hcd, hm⟩ := ksp_first hc
  rcases hi : op.info with ⟨sym, nm'⟩
  rw [hi] at hs hr hfT sl
  dsimp only at hs hr hfT sl
  have one := ksp_try X I hr hf h
  obtain ⟨hh, g, d, tt, os⟩ := s
  have L1 : Looks (model prog w) hh (typeOf (.ref x)) (.ref C) := I.type
  have L2 : Looks (model prog w) hh (typeOf a) (.type T) := Looks.of_pure ha'
  have L3 : Looks (model prog w) hh (fillsNumberSlot (.ref C) nm') true := fills_K X hcd hm hs
  have L4 : Looks (model prog w) hh (fillsNumberSlot (.type T) nm') true := Looks.of_pure hfT
  have L5 : Looks (model prog w) hh (isSubtype (.ref C) (.type T)) false := looks_subIn X hsub
  have L7 : Looks (model prog w) hh (numberSlotInPython (.type T) nm') false := Looks.of_pure rfl
  have hne : (Value.type T == Value.ref C) = false := Bool.eq_false_iff.mpr fun q => by cases beq_iff_eq.mp q
  simp only [binaryOp, hi]
  refine wpAny_holding (wpAny_bind ?_)
  unfold binaryOp1
  refine wpAny_bind (L2.at (wpAny_bind (L1.at (wpAny_bind (L4.at ?_)))))
  simp only [hne, Bool.false_eq_true, if_false]
  have two : ∀ Q' : Option Value → Shared → Prop, Q' none ⟨hh, g, d, tt, os⟩ → wpAny (model prog w) A (tryMethod a (PySem.dunder nm') (.ref x)) Q' E ⟨hh, g, d, tt, os⟩ := fun Q' hq => by
    unfold tryMethod
    exact wpAny_bind (wpAny_callSpecial?_slot ha sl (hcall _ (wpAny_pure hq)))
  repeat ((fail_if_success (with_reducible show wpAny _ _ (tryMethod _ _ _) _ _ _)); lk)
  refine two _ ?_
  dsimp only
  repeat ((fail_if_success (with_reducible show wpAny _ _ (tryMethod _ _ _) _ _ _)); lk)
  refine wpAny_mono one (fun r s' hr' => ?_) fun _ _ e => e
  obtain ⟨v, rfl, hq⟩ := hr'
  repeat ((fail_if_success (with_reducible show wpAny _ _ (tryMethod _ _ _) _ _ _)); lk)
  exact hq
theorem mul_int_inst {k : Int} {t : Tok} {Q : Value → Shared → Prop} (F : Fr h₀ L s.heap m) (X₀ : K.In h₀) (I : InstAt s.heap x ox C od) (ho : ox.data = .plain) (hc : selfFirst K C = true)
    (hs : findIn K (.ref C) (PySem.dunder (Operator.Mult).info.2) = some (some (.ref f0))) (hr : findIn K (.ref C) (dunderR (Operator.Mult).info.2) = some (some (.ref f))) (hf : isFn K (.ref f) = true)
    (hsub : subIn K (.ref C) (.type "int") = some false)
    (h : wpAny (model prog w) A (call (.ref f) [.ref x, .int k t]) (W.CmpBack Q) E s) : wpAny (model prog w) A (binaryOp .Mult (.int k t) (.ref x)) Q E s :=
  rbin_K F X₀ I (typeIs_int s k t) rfl hc PySem.F.fills_int_mul PySem.F.slot_int_mul hs hr hf hsub
    (fun Q' hq => call_meets PySem.F.slot_int_mul (typeIs_int s k t) PySem.F.entry_int_mul (PySem.F.args_int_mul_2 _ _) (int_mul_plain k t x ox ho) ⟨I.at_, hq⟩) h
theorem sub_float_inst {k : UInt64} {t : Tok} {Q : Value → Shared → Prop} (F : Fr h₀ L s.heap m) (X₀ : K.In h₀) (I : InstAt s.heap x ox C od) (ho : ox.data = .plain) (hc : selfFirst K C = true)
    (hs : findIn K (.ref C) (PySem.dunder (Operator.Sub).info.2) = some (some (.ref f0))) (hr : findIn K (.ref C) (dunderR (Operator.Sub).info.2) = some (some (.ref f))) (hf : isFn K (.ref f) = true)
    (hsub : subIn K (.ref C) (.type "float") = some false)
    (h : wpAny (model prog w) A (call (.ref f) [.ref x, .float k t]) (W.CmpBack Q) E s) : wpAny (model prog w) A (binaryOp .Sub (.float k t) (.ref x)) Q E s :=
  rbin_K F X₀ I (typeIs_float s k t) rfl hc PySem.F.fills_float_sub PySem.F.slot_float_sub hs hr hf hsub
    (fun Q' hq => call_meets PySem.F.slot_float_sub (typeIs_float s k t) PySem.F.entry_float_sub (PySem.F.args_float_sub_2 _ _) (float_sub_plain k t x ox ho) ⟨I.at_, hq⟩) h
theorem add_float_inst {k : UInt64} {t : Tok} {Q : Value → Shared → Prop} (F : Fr h₀ L s.heap m) (X₀ : K.In h₀) (I : InstAt s.heap x ox C od) (ho : ox.data = .plain) (hc : selfFirst K C = true)
    (hs : findIn K (.ref C) (PySem.dunder (Operator.Add).info.2) = some (some (.ref f0))) (hr : findIn K (.ref C) (dunderR (Operator.Add).info.2) = some (some (.ref f))) (hf : isFn K (.ref f) = true)
    (hsub : subIn K (.ref C) (.type "float") = some false)
    (h : wpAny (model prog w) A (call (.ref f) [.ref x, .float k t]) (W.CmpBack Q) E s) : wpAny (model prog w) A (binaryOp .Add (.float k t) (.ref x)) Q E s :=
  rbin_K F X₀ I (typeIs_float s k t) rfl hc PySem.F.fills_float_add PySem.F.slot_float_add hs hr hf hsub
    (fun Q' hq => call_meets PySem.F.slot_float_add (typeIs_float s k t) PySem.F.entry_float_add (PySem.F.args_float_add_2 _ _) (float_add_plain k t x ox ho) ⟨I.at_, hq⟩) h
end
section
open PySem.Builtin.Math
theorem kind_hypot : builtinKind "math.hypot" = none := by decide +kernel
theorem plain_hypot : plainId "math.hypot" = true := by decide +kernel
theorem entry_hypot : entryFor table "math.hypot" = some Builtin.«math.hypot» := entryFor_of_fast (by kernel_rfl)
theorem args_hypot (a b : Value) : argsOk "math.hypot" ⟨[a, b], []⟩ := by unfold argsOk; kernel_rfl
theorem gives_hypot (x : UInt64) (t : Tok) (y : UInt64) (u : Tok) :
    Gives (Builtin.«math.hypot» ⟨[.float x t, .float y u], []⟩) (.float (vectorNorm [Float64.abs x, Float64.abs y])) :=
  .of_wp fun M A E s Q h => by obtain ⟨hp, g, d, tk, os⟩ := s; wp_walk; exact ⟨_, rfl, h⟩
theorem call_hypot {prog : Program} {w : World} {A : Around} {E : Value → Shared → Prop} {s : Shared} {x y : UInt64} {t u : Tok} {Q : Value → Shared → Prop}
    (h : Q (.float (vectorNorm [Float64.abs x, Float64.abs y]) s.toks) { s with toks := s.toks + 1 }) : wpAny (model prog w) A (call (.builtin "math.hypot") [.float x t, .float y u]) Q E s :=
  Flt.call_fn_gives kind_hypot plain_hypot entry_hypot (args_hypot _ _) (gives_hypot x t y u) h
end
end Mine

end Refl
section CT1
open PySem PySem.W PySem.Calls PyProof.Rows
set_option Elab.async false
set_option linter.unusedVariables false
namespace Mine
abbrev ndO (dx : Addr) (mu sg : Value) : Obj := { cls := .ref 270, dict := some dx, data := .plain, slots := [some mu, some sg].toArray }
abbrev AA (d : Nat) (env : Env) (outer : List Env) (gs : Option (List Code)) (u : Nat) : Around := { handled := none, depth := d, frames := some (env :: outer), guards := gs, units := u }
theorem notOver {k : Int} (h : k.natAbs < 2 ^ 63) : ¬ Flt.Over k := by
  intro c
  have c2 : 2 ^ 1024 - 2 ^ 970 ≤ k.natAbs := c
  have : (2 : Nat) ^ 63 ≤ 2 ^ 1024 - 2 ^ 970 := by decide +kernel
  omega
section
variable {w : World} {A₀ : Around} {E : Value → Shared → Prop} {s : Shared} {L : Addr} {h₀ base : Heap} {m mg mb : Str → Option Value} {news : List (Addr × Obj)} {mean : ExcName → Option Value} {env : Env} {outer : List Env} {Q : Value → Shared → Prop}
  {p : Program} {loose : List Str} {d u : Nat} {gs : Option (List Code)} {mu sg mu2 sg2 : UInt64} {t1 t2 t3 t4 : Tok} {x dx y dy : Addr}
theorem toks_gen1 {α : Type} {M : Model} {A : Around} {t : Sem α} {Q : α → Shared → Prop} {E : Value → Shared → Prop} {h : Heap} {g : Array GenState} {d : Drawn} {X : Nat} {o : OsState} (H : ∀ tk, wpAny M A t Q E ⟨h, g, d, tk, o⟩) : wpAny M A t Q E ⟨h, g, d, X, o⟩ := H X
theorem toks_genP {α : Type} {M : Model} {A : Around} {t : Sem α} {Q : α → Shared → Prop} {E : Value → Shared → Prop} {h : Heap} {g : Array GenState} {d : Drawn} {X : Nat} {o : OsState} (hX : 0 < X) (H : ∀ tk, 0 < tk → wpAny M A t Q E ⟨h, g, d, tk, o⟩) : wpAny M A t Q E ⟨h, g, d, X, o⟩ := H X hX
local macro_rules | `(tactic| walk_at "PP") => `(tactic| first | assumption | exact Nat.zero_lt_succ _ | (simp only [List.length_cons, List.length_nil]; exact Nat.zero_lt_succ _) | omega)
local macro_rules | `(tactic| walk_at "HR") => `(tactic| first | omega | (simp only [depth_under_make, depth_under_kw, depth_in1, depth_deeper, depth_caller]; first | decide | omega))
local macro_rules | `(tactic| walk_at "execs cons") => `(tactic| (k_here; (first | ((with_reducible refine toks_genP (by walk_at "PP") ?_); intro tk' hk') | ((with_reducible refine toks_gen1 ?_); intro tk')); (with_reducible refine wpAny_execs_cons ?_); (try dsimp only)))
local macro_rules | `(tactic| walk_at "execs nil") => `(tactic| (k_here; (first | ((with_reducible refine toks_genP (by walk_at "PP") ?_); intro tk' hk') | ((with_reducible refine toks_gen1 ?_); intro tk')); (with_reducible refine wpAny_execs_nil ?_); (try dsimp only)))
local macro_rules | `(tactic| k_all) => `(tactic| assumption)
local macro_rules | `(tactic| walk_at "call builtin:math.hypot") => `(tactic| (refine call_hypot ?_))
set_option maxRecDepth 100000 in
set_option maxHeartbeats 8000000 in
theorem mkND (B : Below A₀ base outer h₀) (F : Fr h₀ L s.heap m) (N : News h₀ L s.heap news) (T : Top p loose mean mg mb h₀)
    (hf : env.frame = some L) (hke : env.scope.kind = .function) (hroom : d + 5 < recursionLimit)
    (hs : (Float64.cmp (sg) 0 == some Ordering.lt) = false)
    (h : ∀ (x' dx' : Addr) h' tk, 0 < tk → (Float64.cmp (sg) 0 == some Ordering.lt) = false → Fr h₀ L h' m → News h₀ L h' ((x', ndO dx' (.float (mu) t1) (.float (sg) t2)) :: (dx', dictOf [] 0) :: news) → Q (.ref x') { s with heap := h', toks := tk }) :
    (K1 w.params).In h₀ → wpAny (model PySem.Challenge.rw_oz0057_01.row.prog w) (AA d env outer gs u) (call (.ref 270) [.float mu t1, .float sg t2] []) Q E s := by
  k_fill
  intro X₀
  refine' call_cls (K := (K1 w.params)) (fI := 78) F X₀ N ?k4 ?k5 ?k6 ?_
  case k4 => k_is
  case k5 => k_is
  case k6 => k_is
  intro x' d' h' F' N' l1 l2
  k_lt2 l2
  have l3 : ∀ p ∈ news, p.1 ≠ x' := fun p hp => by have := ltN (l1 p hp); exact neN (by omega)
  have l4 : ∀ p ∈ news, p.1 ≠ d' := fun p hp => by have := ltN (l1 p hp); exact neN (by omega)
  refine' code_def (K := (K1 w.params)) B ?k2 ?k3 ?k4 T ?kA hf hke ?k6 ?k7 ?k8 ?k9 ?kB ?_ ?c2 ?c3 ?c4 ?c5
  case kA => exact rfl
  case k2 => k_asm
  case k3 => k_asm
  case k4 => k_asm
  case k6 => k_is
  case k7 => k_is
  case k8 => (simp only [depth_under_make]; omega)
  case k9 => first | exact BindsTo.of_eq rfl | exact binds_K (by k_in) rfl (by k_is) rfl rfl rfl
  case kB => exact locs rfl
  case c5 => decide
  case c2 => exact rfl
  case c3 => exact rfl
  case c4 => exact rfl
  intro g' L' h' FG' F' N' B' X' T'
  dsimp only
  try k_fold
  k_steps
  refine' h _ _ _ _ ?p0 hs ?fa ?fb
  case fa => assumption
  case fb => assumption
  case p0 => first | assumption | exact Nat.zero_lt_succ _ | (simp only [List.length_cons, List.length_nil]; exact Nat.zero_lt_succ _) | omega

local macro_rules | `(tactic| walk_at "call ref") => `(tactic| (k_here; (with_reducible show wpAny _ _ (call (Value.ref 270) [Value.float _ _, Value.float _ _] _) _ _ _); k_dflt (refine' mkND (by k_asm) (by k_asm) (by k_asm) (by k_asm) (by exact rfl) (by exact rfl) (by first | omega | (simp only [depth_under_make, depth_under_kw, depth_in1, depth_deeper, depth_caller]; omega)) (by assumption) ?_ (by k_in)); intros; (try k_sweep)))

set_option maxRecDepth 100000 in
set_option maxHeartbeats 8000000 in
theorem mul_ri {k : Int} {t : Tok}
    (B : Below A₀ base outer h₀) (F : Fr h₀ L s.heap m) (N : News h₀ L s.heap news) (T : Top p loose mean mg mb h₀)
    (hf : env.frame = some L) (hke : env.scope.kind = .function) (hroom : d + 10 < recursionLimit)
    (hx : (x, ndO dx (.float mu t1) (.float sg t2)) ∈ news) (hdx : (dx, dictOf [] 0) ∈ news) (hk : k.natAbs < 2 ^ 63)
    (hs : (Float64.cmp (Float64.mul sg (Float64.abs (Float64.ofInt k))) 0 == some Ordering.lt) = false)
    (h : ∀ (x' dx' : Addr) h' tk t1 t2, 0 < tk → 0 < t1 → 0 < t2 → (Float64.cmp (Float64.mul sg (Float64.abs (Float64.ofInt k))) 0 == some Ordering.lt) = false → Fr h₀ L h' m → News h₀ L h' ((x', ndO dx' (.float (Float64.mul mu (Float64.ofInt k)) t1) (.float (Float64.mul sg (Float64.abs (Float64.ofInt k))) t2)) :: (dx', dictOf [] 0) :: news) → Q (.ref x') { s with heap := h', toks := tk }) :
    (K1 w.params).In h₀ → wpAny (model PySem.Challenge.rw_oz0057_01.row.prog w) (AA d env outer gs u) (binaryOp .Mult (.ref x) (.int k t)) Q E s := by
  k_fill
  intro X₀
  have hov := notOver hk
  have hov2 : k.natAbs < 2 ^ 1024 - 2 ^ 970 := Nat.lt_of_lt_of_le hk (by decide +kernel)
  refine' ksp_binT (K := (K1 w.params)) (C := 270) F X₀ ?I ?hB ?hC ?hS ?hF ?hR ?hP ?h1 ?h2 ?hU ?_
  case hB => exact rfl
  case I => exact InstAt.of_news N hx hdx
  case hS => k_is
  case hF => k_is
  case hC => k_is
  case hR => k_is
  case hP => first | exact .inl rfl | exact .inr ⟨_, rfl⟩
  case h1 => k_is
  case h2 => k_is
  case hU => k_is
  refine wpAny_call ?_
  refine' code_def (K := (K1 w.params)) B ?k2 ?k3 ?k4 T ?kA hf hke ?k6 ?k7 ?k8 ?k9 ?kB ?_ ?c2 ?c3 ?c4 ?c5
  case kA => exact rfl
  case k2 => k_asm
  case k3 => k_asm
  case k4 => k_asm
  case k6 => k_is
  case k7 => k_is
  case k8 => (show d < _; omega)
  case k9 => first | exact BindsTo.of_eq rfl | exact binds_K (by k_in) rfl (by k_is) rfl rfl rfl
  case kB => exact locs rfl
  case c5 => decide
  case c2 => exact rfl
  case c3 => exact rfl
  case c4 => exact rfl
  intro g' L' h' FG' F' N' B' X' T'
  dsimp only
  try k_fold
  k_steps
  refine' h _ _ _ _ _ _ ?p0 ?p1 ?p2 hs ?fa ?fb
  case fa => assumption
  case fb => assumption
  case p0 => first | assumption | exact Nat.zero_lt_succ _ | (simp only [List.length_cons, List.length_nil]; exact Nat.zero_lt_succ _) | omega
  case p1 => first | assumption | exact Nat.zero_lt_succ _ | (simp only [List.length_cons, List.length_nil]; exact Nat.zero_lt_succ _) | omega
  case p2 => first | assumption | exact Nat.zero_lt_succ _ | (simp only [List.length_cons, List.length_nil]; exact Nat.zero_lt_succ _) | omega

set_option maxRecDepth 100000 in
set_option maxHeartbeats 8000000 in
theorem mul_ir {k : Int} {t : Tok}
    (B : Below A₀ base outer h₀) (F : Fr h₀ L s.heap m) (N : News h₀ L s.heap news) (T : Top p loose mean mg mb h₀)
    (hf : env.frame = some L) (hke : env.scope.kind = .function) (hroom : d + 10 < recursionLimit)
    (hx : (x, ndO dx (.float mu t1) (.float sg t2)) ∈ news) (hdx : (dx, dictOf [] 0) ∈ news) (hk : k.natAbs < 2 ^ 63)
    (hs : (Float64.cmp (Float64.mul sg (Float64.abs (Float64.ofInt k))) 0 == some Ordering.lt) = false)
    (h : ∀ (x' dx' : Addr) h' tk t1 t2, 0 < tk → 0 < t1 → 0 < t2 → (Float64.cmp (Float64.mul sg (Float64.abs (Float64.ofInt k))) 0 == some Ordering.lt) = false → Fr h₀ L h' m → News h₀ L h' ((x', ndO dx' (.float (Float64.mul mu (Float64.ofInt k)) t1) (.float (Float64.mul sg (Float64.abs (Float64.ofInt k))) t2)) :: (dx', dictOf [] 0) :: news) → Q (.ref x') { s with heap := h', toks := tk }) :
    (K1 w.params).In h₀ → wpAny (model PySem.Challenge.rw_oz0057_01.row.prog w) (AA d env outer gs u) (binaryOp .Mult (.int k t) (.ref x)) Q E s := by
  k_fill
  intro X₀
  have hov := notOver hk
  have hov2 : k.natAbs < 2 ^ 1024 - 2 ^ 970 := Nat.lt_of_lt_of_le hk (by decide +kernel)
  refine' mul_int_inst (K := (K1 w.params)) (C := 270) F X₀ (InstAt.of_news N hx hdx) rfl ?hC ?hS ?hR ?hF ?hU ?_
  case hC => k_is
  case hS => k_is
  case hR => k_is
  case hF => k_is
  case hU => k_is
  refine wpAny_call ?_
  refine' code_def (K := (K1 w.params)) B ?k2 ?k3 ?k4 T ?kA hf hke ?k6 ?k7 ?k8 ?k9 ?kB ?_ ?c2 ?c3 ?c4 ?c5
  case kA => exact rfl
  case k2 => k_asm
  case k3 => k_asm
  case k4 => k_asm
  case k6 => k_is
  case k7 => k_is
  case k8 => (show d < _; omega)
  case k9 => first | exact BindsTo.of_eq rfl | exact binds_K (by k_in) rfl (by k_is) rfl rfl rfl
  case kB => exact locs rfl
  case c5 => decide
  case c2 => exact rfl
  case c3 => exact rfl
  case c4 => exact rfl
  intro g' L' h' FG' F' N' B' X' T'
  dsimp only
  try k_fold
  k_steps
  refine' h _ _ _ _ _ _ ?p0 ?p1 ?p2 hs ?fa ?fb
  case fa => assumption
  case fb => assumption
  case p0 => first | assumption | exact Nat.zero_lt_succ _ | (simp only [List.length_cons, List.length_nil]; exact Nat.zero_lt_succ _) | omega
  case p1 => first | assumption | exact Nat.zero_lt_succ _ | (simp only [List.length_cons, List.length_nil]; exact Nat.zero_lt_succ _) | omega
  case p2 => first | assumption | exact Nat.zero_lt_succ _ | (simp only [List.length_cons, List.length_nil]; exact Nat.zero_lt_succ _) | omega

set_option maxRecDepth 100000 in
set_option maxHeartbeats 8000000 in
theorem div_ri {k : Int} {t : Tok}
    (B : Below A₀ base outer h₀) (F : Fr h₀ L s.heap m) (N : News h₀ L s.heap news) (T : Top p loose mean mg mb h₀)
    (hf : env.frame = some L) (hke : env.scope.kind = .function) (hroom : d + 10 < recursionLimit)
    (hx : (x, ndO dx (.float mu t1) (.float sg t2)) ∈ news) (hdx : (dx, dictOf [] 0) ∈ news) (hk : k.natAbs < 2 ^ 63) (hk0 : k ≠ 0) (hz : ¬ Float64.isZero (Float64.abs (Float64.ofInt k)) = true)
    (hs : (Float64.cmp (Float64.div sg (Float64.abs (Float64.ofInt k))) 0 == some Ordering.lt) = false)
    (h : ∀ (x' dx' : Addr) h' tk t1 t2, 0 < tk → 0 < t1 → 0 < t2 → (Float64.cmp (Float64.div sg (Float64.abs (Float64.ofInt k))) 0 == some Ordering.lt) = false → Fr h₀ L h' m → News h₀ L h' ((x', ndO dx' (.float (Float64.div mu (Float64.ofInt k)) t1) (.float (Float64.div sg (Float64.abs (Float64.ofInt k))) t2)) :: (dx', dictOf [] 0) :: news) → Q (.ref x') { s with heap := h', toks := tk }) :
    (K1 w.params).In h₀ → wpAny (model PySem.Challenge.rw_oz0057_01.row.prog w) (AA d env outer gs u) (binaryOp .Div (.ref x) (.int k t)) Q E s := by
  k_fill
  intro X₀
  have hov := notOver hk
  have hov2 : k.natAbs < 2 ^ 1024 - 2 ^ 970 := Nat.lt_of_lt_of_le hk (by decide +kernel)
  refine' ksp_binT (K := (K1 w.params)) (C := 270) F X₀ ?I ?hB ?hC ?hS ?hF ?hR ?hP ?h1 ?h2 ?hU ?_
  case hB => exact rfl
  case I => exact InstAt.of_news N hx hdx
  case hS => k_is
  case hF => k_is
  case hC => k_is
  case hR => k_is
  case hP => first | exact .inl rfl | exact .inr ⟨_, rfl⟩
  case h1 => k_is
  case h2 => k_is
  case hU => k_is
  refine wpAny_call ?_
  refine' code_def (K := (K1 w.params)) B ?k2 ?k3 ?k4 T ?kA hf hke ?k6 ?k7 ?k8 ?k9 ?kB ?_ ?c2 ?c3 ?c4 ?c5
  case kA => exact rfl
  case k2 => k_asm
  case k3 => k_asm
  case k4 => k_asm
  case k6 => k_is
  case k7 => k_is
  case k8 => (show d < _; omega)
  case k9 => first | exact BindsTo.of_eq rfl | exact binds_K (by k_in) rfl (by k_is) rfl rfl rfl
  case kB => exact locs rfl
  case c5 => decide
  case c2 => exact rfl
  case c3 => exact rfl
  case c4 => exact rfl
  intro g' L' h' FG' F' N' B' X' T'
  dsimp only
  try k_fold
  k_steps
  refine' h _ _ _ _ _ _ ?p0 ?p1 ?p2 hs ?fa ?fb
  case fa => assumption
  case fb => assumption
  case p0 => first | assumption | exact Nat.zero_lt_succ _ | (simp only [List.length_cons, List.length_nil]; exact Nat.zero_lt_succ _) | omega
  case p1 => first | assumption | exact Nat.zero_lt_succ _ | (simp only [List.length_cons, List.length_nil]; exact Nat.zero_lt_succ _) | omega
  case p2 => first | assumption | exact Nat.zero_lt_succ _ | (simp only [List.length_cons, List.length_nil]; exact Nat.zero_lt_succ _) | omega

set_option maxRecDepth 100000 in
set_option maxHeartbeats 8000000 in
theorem add_rr 
    (B : Below A₀ base outer h₀) (F : Fr h₀ L s.heap m) (N : News h₀ L s.heap news) (T : Top p loose mean mg mb h₀)
    (hf : env.frame = some L) (hke : env.scope.kind = .function) (hroom : d + 10 < recursionLimit)
    (hx : (x, ndO dx (.float mu t1) (.float sg t2)) ∈ news) (hdx : (dx, dictOf [] 0) ∈ news) (hy : (y, ndO dy (.float mu2 t3) (.float sg2 t4)) ∈ news) (hdy : (dy, dictOf [] 0) ∈ news)
    (hs : (Float64.cmp (PySem.Builtin.Math.vectorNorm [Float64.abs sg, Float64.abs sg2]) 0 == some Ordering.lt) = false)
    (h : ∀ (x' dx' : Addr) h' tk t1 t2, 0 < tk → 0 < t1 → 0 < t2 → (Float64.cmp (PySem.Builtin.Math.vectorNorm [Float64.abs sg, Float64.abs sg2]) 0 == some Ordering.lt) = false → Fr h₀ L h' m → News h₀ L h' ((x', ndO dx' (.float (Float64.add mu mu2) t1) (.float (PySem.Builtin.Math.vectorNorm [Float64.abs sg, Float64.abs sg2]) t2)) :: (dx', dictOf [] 0) :: news) → Q (.ref x') { s with heap := h', toks := tk }) :
    (K1 w.params).In h₀ → wpAny (model PySem.Challenge.rw_oz0057_01.row.prog w) (AA d env outer gs u) (binaryOp .Add (.ref x) (.ref y)) Q E s := by
  k_fill
  intro X₀
  refine' binop_K (K := (K1 w.params)) (C := 270) F X₀ (InstAt.of_news N hx hdx) ?hb ?hC ?hS ?hF ?_
  case hb => exact InstAt.type (InstAt.of_news N hy hdy)
  case hC => k_is
  case hS => k_is
  case hF => k_is
  refine wpAny_call ?_
  refine' code_def (K := (K1 w.params)) B ?k2 ?k3 ?k4 T ?kA hf hke ?k6 ?k7 ?k8 ?k9 ?kB ?_ ?c2 ?c3 ?c4 ?c5
  case kA => exact rfl
  case k2 => k_asm
  case k3 => k_asm
  case k4 => k_asm
  case k6 => k_is
  case k7 => k_is
  case k8 => (show d < _; omega)
  case k9 => first | exact BindsTo.of_eq rfl | exact binds_K (by k_in) rfl (by k_is) rfl rfl rfl
  case kB => exact locs rfl
  case c5 => decide
  case c2 => exact rfl
  case c3 => exact rfl
  case c4 => exact rfl
  intro g' L' h' FG' F' N' B' X' T'
  dsimp only
  try k_fold
  k_steps
  refine' h _ _ _ _ _ _ ?p0 ?p1 ?p2 hs ?fa ?fb
  case fa => assumption
  case fb => assumption
  case p0 => first | assumption | exact Nat.zero_lt_succ _ | (simp only [List.length_cons, List.length_nil]; exact Nat.zero_lt_succ _) | omega
  case p1 => first | assumption | exact Nat.zero_lt_succ _ | (simp only [List.length_cons, List.length_nil]; exact Nat.zero_lt_succ _) | omega
  case p2 => first | assumption | exact Nat.zero_lt_succ _ | (simp only [List.length_cons, List.length_nil]; exact Nat.zero_lt_succ _) | omega

set_option maxRecDepth 100000 in
set_option maxHeartbeats 8000000 in
theorem sub_rr 
    (B : Below A₀ base outer h₀) (F : Fr h₀ L s.heap m) (N : News h₀ L s.heap news) (T : Top p loose mean mg mb h₀)
    (hf : env.frame = some L) (hke : env.scope.kind = .function) (hroom : d + 10 < recursionLimit)
    (hx : (x, ndO dx (.float mu t1) (.float sg t2)) ∈ news) (hdx : (dx, dictOf [] 0) ∈ news) (hy : (y, ndO dy (.float mu2 t3) (.float sg2 t4)) ∈ news) (hdy : (dy, dictOf [] 0) ∈ news)
    (hs : (Float64.cmp (PySem.Builtin.Math.vectorNorm [Float64.abs sg, Float64.abs sg2]) 0 == some Ordering.lt) = false)
    (h : ∀ (x' dx' : Addr) h' tk t1 t2, 0 < tk → 0 < t1 → 0 < t2 → (Float64.cmp (PySem.Builtin.Math.vectorNorm [Float64.abs sg, Float64.abs sg2]) 0 == some Ordering.lt) = false → Fr h₀ L h' m → News h₀ L h' ((x', ndO dx' (.float (Float64.sub mu mu2) t1) (.float (PySem.Builtin.Math.vectorNorm [Float64.abs sg, Float64.abs sg2]) t2)) :: (dx', dictOf [] 0) :: news) → Q (.ref x') { s with heap := h', toks := tk }) :
    (K1 w.params).In h₀ → wpAny (model PySem.Challenge.rw_oz0057_01.row.prog w) (AA d env outer gs u) (binaryOp .Sub (.ref x) (.ref y)) Q E s := by
  k_fill
  intro X₀
  refine' binop_K (K := (K1 w.params)) (C := 270) F X₀ (InstAt.of_news N hx hdx) ?hb ?hC ?hS ?hF ?_
  case hb => exact InstAt.type (InstAt.of_news N hy hdy)
  case hC => k_is
  case hS => k_is
  case hF => k_is
  refine wpAny_call ?_
  refine' code_def (K := (K1 w.params)) B ?k2 ?k3 ?k4 T ?kA hf hke ?k6 ?k7 ?k8 ?k9 ?kB ?_ ?c2 ?c3 ?c4 ?c5
  case kA => exact rfl
  case k2 => k_asm
  case k3 => k_asm
  case k4 => k_asm
  case k6 => k_is
  case k7 => k_is
  case k8 => (show d < _; omega)
  case k9 => first | exact BindsTo.of_eq rfl | exact binds_K (by k_in) rfl (by k_is) rfl rfl rfl
  case kB => exact locs rfl
  case c5 => decide
  case c2 => exact rfl
  case c3 => exact rfl
  case c4 => exact rfl
  intro g' L' h' FG' F' N' B' X' T'
  dsimp only
  try k_fold
  k_steps
  refine' h _ _ _ _ _ _ ?p0 ?p1 ?p2 hs ?fa ?fb
  case fa => assumption
  case fb => assumption
  case p0 => first | assumption | exact Nat.zero_lt_succ _ | (simp only [List.length_cons, List.length_nil]; exact Nat.zero_lt_succ _) | omega
  case p1 => first | assumption | exact Nat.zero_lt_succ _ | (simp only [List.length_cons, List.length_nil]; exact Nat.zero_lt_succ _) | omega
  case p2 => first | assumption | exact Nat.zero_lt_succ _ | (simp only [List.length_cons, List.length_nil]; exact Nat.zero_lt_succ _) | omega

local macro_rules | `(tactic| walk_at "call builtin:isinstance") => `(tactic| (k_here; (with_reducible show wpAny _ _ (call _ [Value.float _ _, Value.ref _]) _ _ _); k_dflt (refine' kia_one kitx_float (by k_in) trivial (by kit_is) (by kit_nb) ?_; k_whole; intro tkI)))
set_option maxRecDepth 100000 in
set_option maxHeartbeats 8000000 in
theorem add_rf {z : UInt64} {t : Tok}
    (B : Below A₀ base outer h₀) (F : Fr h₀ L s.heap m) (N : News h₀ L s.heap news) (T : Top p loose mean mg mb h₀)
    (hf : env.frame = some L) (hke : env.scope.kind = .function) (hroom : d + 10 < recursionLimit)
    (hx : (x, ndO dx (.float mu t1) (.float sg t2)) ∈ news) (hdx : (dx, dictOf [] 0) ∈ news) (hp2 : 0 < t2)
    (hs : (Float64.cmp (sg) 0 == some Ordering.lt) = false)
    (h : ∀ (x' dx' : Addr) h' tk t1 t2, 0 < tk → 0 < t1 → 0 < t2 → (Float64.cmp (sg) 0 == some Ordering.lt) = false → Fr h₀ L h' m → News h₀ L h' ((x', ndO dx' (.float (Float64.add mu z) t1) (.float (sg) t2)) :: (dx', dictOf [] 0) :: news) → Q (.ref x') { s with heap := h', toks := tk }) :
    (K1 w.params).In h₀ → wpAny (model PySem.Challenge.rw_oz0057_01.row.prog w) (AA d env outer gs u) (binaryOp .Add (.ref x) (.float z t)) Q E s := by
  k_fill
  intro X₀
  refine' ksp_binT (K := (K1 w.params)) (C := 270) F X₀ ?I ?hB ?hC ?hS ?hF ?hR ?hP ?h1 ?h2 ?hU ?_
  case hB => exact rfl
  case I => exact InstAt.of_news N hx hdx
  case hS => k_is
  case hF => k_is
  case hC => k_is
  case hR => k_is
  case hP => first | exact .inl rfl | exact .inr ⟨_, rfl⟩
  case h1 => k_is
  case h2 => k_is
  case hU => k_is
  refine wpAny_call ?_
  refine' code_def (K := (K1 w.params)) B ?k2 ?k3 ?k4 T ?kA hf hke ?k6 ?k7 ?k8 ?k9 ?kB ?_ ?c2 ?c3 ?c4 ?c5
  case kA => exact rfl
  case k2 => k_asm
  case k3 => k_asm
  case k4 => k_asm
  case k6 => k_is
  case k7 => k_is
  case k8 => (show d < _; omega)
  case k9 => first | exact BindsTo.of_eq rfl | exact binds_K (by k_in) rfl (by k_is) rfl rfl rfl
  case kB => exact locs rfl
  case c5 => decide
  case c2 => exact rfl
  case c3 => exact rfl
  case c4 => exact rfl
  intro g' L' h' FG' F' N' B' X' T'
  dsimp only
  try k_fold
  k_steps
  refine' h _ _ _ _ _ _ ?p0 ?p1 ?p2 hs ?fa ?fb
  case fa => assumption
  case fb => assumption
  case p0 => first | assumption | exact Nat.zero_lt_succ _ | (simp only [List.length_cons, List.length_nil]; exact Nat.zero_lt_succ _) | omega
  case p1 => first | assumption | exact Nat.zero_lt_succ _ | (simp only [List.length_cons, List.length_nil]; exact Nat.zero_lt_succ _) | omega
  case p2 => first | assumption | exact Nat.zero_lt_succ _ | (simp only [List.length_cons, List.length_nil]; exact Nat.zero_lt_succ _) | omega

set_option maxRecDepth 100000 in
set_option maxHeartbeats 8000000 in
theorem add_fr {z : UInt64} {t : Tok}
    (B : Below A₀ base outer h₀) (F : Fr h₀ L s.heap m) (N : News h₀ L s.heap news) (T : Top p loose mean mg mb h₀)
    (hf : env.frame = some L) (hke : env.scope.kind = .function) (hroom : d + 10 < recursionLimit)
    (hx : (x, ndO dx (.float mu t1) (.float sg t2)) ∈ news) (hdx : (dx, dictOf [] 0) ∈ news) (hp2 : 0 < t2)
    (hs : (Float64.cmp (sg) 0 == some Ordering.lt) = false)
    (h : ∀ (x' dx' : Addr) h' tk t1 t2, 0 < tk → 0 < t1 → 0 < t2 → (Float64.cmp (sg) 0 == some Ordering.lt) = false → Fr h₀ L h' m → News h₀ L h' ((x', ndO dx' (.float (Float64.add mu z) t1) (.float (sg) t2)) :: (dx', dictOf [] 0) :: news) → Q (.ref x') { s with heap := h', toks := tk }) :
    (K1 w.params).In h₀ → wpAny (model PySem.Challenge.rw_oz0057_01.row.prog w) (AA d env outer gs u) (binaryOp .Add (.float z t) (.ref x)) Q E s := by
  k_fill
  intro X₀
  refine' add_float_inst (K := (K1 w.params)) (C := 270) F X₀ (InstAt.of_news N hx hdx) rfl ?hC ?hS ?hR ?hF ?hU ?_
  case hC => k_is
  case hS => k_is
  case hR => k_is
  case hF => k_is
  case hU => k_is
  refine wpAny_call ?_
  refine' code_def (K := (K1 w.params)) B ?k2 ?k3 ?k4 T ?kA hf hke ?k6 ?k7 ?k8 ?k9 ?kB ?_ ?c2 ?c3 ?c4 ?c5
  case kA => exact rfl
  case k2 => k_asm
  case k3 => k_asm
  case k4 => k_asm
  case k6 => k_is
  case k7 => k_is
  case k8 => (show d < _; omega)
  case k9 => first | exact BindsTo.of_eq rfl | exact binds_K (by k_in) rfl (by k_is) rfl rfl rfl
  case kB => exact locs rfl
  case c5 => decide
  case c2 => exact rfl
  case c3 => exact rfl
  case c4 => exact rfl
  intro g' L' h' FG' F' N' B' X' T'
  dsimp only
  try k_fold
  k_steps
  refine' h _ _ _ _ _ _ ?p0 ?p1 ?p2 hs ?fa ?fb
  case fa => assumption
  case fb => assumption
  case p0 => first | assumption | exact Nat.zero_lt_succ _ | (simp only [List.length_cons, List.length_nil]; exact Nat.zero_lt_succ _) | omega
  case p1 => first | assumption | exact Nat.zero_lt_succ _ | (simp only [List.length_cons, List.length_nil]; exact Nat.zero_lt_succ _) | omega
  case p2 => first | assumption | exact Nat.zero_lt_succ _ | (simp only [List.length_cons, List.length_nil]; exact Nat.zero_lt_succ _) | omega

set_option maxRecDepth 100000 in
set_option maxHeartbeats 8000000 in
theorem sub_rf {z : UInt64} {t : Tok}
    (B : Below A₀ base outer h₀) (F : Fr h₀ L s.heap m) (N : News h₀ L s.heap news) (T : Top p loose mean mg mb h₀)
    (hf : env.frame = some L) (hke : env.scope.kind = .function) (hroom : d + 10 < recursionLimit)
    (hx : (x, ndO dx (.float mu t1) (.float sg t2)) ∈ news) (hdx : (dx, dictOf [] 0) ∈ news) (hp2 : 0 < t2)
    (hs : (Float64.cmp (sg) 0 == some Ordering.lt) = false)
    (h : ∀ (x' dx' : Addr) h' tk t1 t2, 0 < tk → 0 < t1 → 0 < t2 → (Float64.cmp (sg) 0 == some Ordering.lt) = false → Fr h₀ L h' m → News h₀ L h' ((x', ndO dx' (.float (Float64.sub mu z) t1) (.float (sg) t2)) :: (dx', dictOf [] 0) :: news) → Q (.ref x') { s with heap := h', toks := tk }) :
    (K1 w.params).In h₀ → wpAny (model PySem.Challenge.rw_oz0057_01.row.prog w) (AA d env outer gs u) (binaryOp .Sub (.ref x) (.float z t)) Q E s := by
  k_fill
  intro X₀
  refine' ksp_binT (K := (K1 w.params)) (C := 270) F X₀ ?I ?hB ?hC ?hS ?hF ?hR ?hP ?h1 ?h2 ?hU ?_
  case hB => exact rfl
  case I => exact InstAt.of_news N hx hdx
  case hS => k_is
  case hF => k_is
  case hC => k_is
  case hR => k_is
  case hP => first | exact .inl rfl | exact .inr ⟨_, rfl⟩
  case h1 => k_is
  case h2 => k_is
  case hU => k_is
  refine wpAny_call ?_
  refine' code_def (K := (K1 w.params)) B ?k2 ?k3 ?k4 T ?kA hf hke ?k6 ?k7 ?k8 ?k9 ?kB ?_ ?c2 ?c3 ?c4 ?c5
  case kA => exact rfl
  case k2 => k_asm
  case k3 => k_asm
  case k4 => k_asm
  case k6 => k_is
  case k7 => k_is
  case k8 => (show d < _; omega)
  case k9 => first | exact BindsTo.of_eq rfl | exact binds_K (by k_in) rfl (by k_is) rfl rfl rfl
  case kB => exact locs rfl
  case c5 => decide
  case c2 => exact rfl
  case c3 => exact rfl
  case c4 => exact rfl
  intro g' L' h' FG' F' N' B' X' T'
  dsimp only
  try k_fold
  k_steps
  refine' h _ _ _ _ _ _ ?p0 ?p1 ?p2 hs ?fa ?fb
  case fa => assumption
  case fb => assumption
  case p0 => first | assumption | exact Nat.zero_lt_succ _ | (simp only [List.length_cons, List.length_nil]; exact Nat.zero_lt_succ _) | omega
  case p1 => first | assumption | exact Nat.zero_lt_succ _ | (simp only [List.length_cons, List.length_nil]; exact Nat.zero_lt_succ _) | omega
  case p2 => first | assumption | exact Nat.zero_lt_succ _ | (simp only [List.length_cons, List.length_nil]; exact Nat.zero_lt_succ _) | omega

set_option maxRecDepth 100000 in
set_option maxHeartbeats 8000000 in
theorem neg_r 
    (B : Below A₀ base outer h₀) (F : Fr h₀ L s.heap m) (N : News h₀ L s.heap news) (T : Top p loose mean mg mb h₀)
    (hf : env.frame = some L) (hke : env.scope.kind = .function) (hroom : d + 10 < recursionLimit)
    (hx : (x, ndO dx (.float mu t1) (.float sg t2)) ∈ news) (hdx : (dx, dictOf [] 0) ∈ news) (hp2 : 0 < t2)
    (hs : (Float64.cmp (sg) 0 == some Ordering.lt) = false)
    (h : ∀ (x' dx' : Addr) h' tk t1 t2, 0 < tk → 0 < t1 → 0 < t2 → (Float64.cmp (sg) 0 == some Ordering.lt) = false → Fr h₀ L h' m → News h₀ L h' ((x', ndO dx' (.float (Float64.neg mu) t1) (.float (sg) t2)) :: (dx', dictOf [] 0) :: news) → Q (.ref x') { s with heap := h', toks := tk }) :
    (K1 w.params).In h₀ → wpAny (model PySem.Challenge.rw_oz0057_01.row.prog w) (AA d env outer gs u) (unaryOp .USub (.ref x)) Q E s := by
  k_fill
  intro X₀
  refine' ksp_neg (K := (K1 w.params)) (C := 270) F X₀ (InstAt.of_news N hx hdx) ?hS ?hF ?_
  case hS => k_is
  case hF => k_is
  refine wpAny_call ?_
  refine' code_def (K := (K1 w.params)) B ?k2 ?k3 ?k4 T ?kA hf hke ?k6 ?k7 ?k8 ?k9 ?kB ?_ ?c2 ?c3 ?c4 ?c5
  case kA => exact rfl
  case k2 => k_asm
  case k3 => k_asm
  case k4 => k_asm
  case k6 => k_is
  case k7 => k_is
  case k8 => (show d < _; omega)
  case k9 => first | exact BindsTo.of_eq rfl | exact binds_K (by k_in) rfl (by k_is) rfl rfl rfl
  case kB => exact locs rfl
  case c5 => decide
  case c2 => exact rfl
  case c3 => exact rfl
  case c4 => exact rfl
  intro g' L' h' FG' F' N' B' X' T'
  dsimp only
  try k_fold
  k_steps
  refine' h _ _ _ _ _ _ ?p0 ?p1 ?p2 hs ?fa ?fb
  case fa => assumption
  case fb => assumption
  case p0 => first | assumption | exact Nat.zero_lt_succ _ | (simp only [List.length_cons, List.length_nil]; exact Nat.zero_lt_succ _) | omega
  case p1 => first | assumption | exact Nat.zero_lt_succ _ | (simp only [List.length_cons, List.length_nil]; exact Nat.zero_lt_succ _) | omega
  case p2 => first | assumption | exact Nat.zero_lt_succ _ | (simp only [List.length_cons, List.length_nil]; exact Nat.zero_lt_succ _) | omega

local macro_rules | `(tactic| walk_at "binaryOp Sub ref float") => `(tactic| (k_here; k_dflt (refine' sub_rf (by k_asm) (by k_asm) (by k_asm) (by k_asm) (by exact rfl) (by exact rfl) (by first | omega | (simp only [depth_under_make, depth_under_kw, depth_in1, depth_deeper, depth_caller]; omega)) (by assumption) (by assumption) (by assumption) (by assumption) ?_ (by k_in)); intros; (try k_sweep)))
theorem news_drop2 {h₀ h : Heap} {L : Addr} {a b c d : Addr × Obj} {news : List (Addr × Obj)} (N : News h₀ L h (a :: b :: c :: d :: news)) : News h₀ L h (a :: b :: news) := by
  intro p hp
  refine N p ?_
  simp only [List.mem_cons] at hp ⊢
  rcases hp with hp | hp | hp <;> simp [hp]
local macro_rules | `(tactic| walk_at "unaryOp USub ref") => `(tactic| (k_here; k_dflt (refine' neg_r (by k_asm) (by k_asm) (by k_asm) (by k_asm) (by exact rfl) (by exact rfl) (by first | omega | (simp only [depth_under_make, depth_under_kw, depth_in1, depth_deeper, depth_caller]; omega)) (by k_mem) (by k_mem) (by assumption) (by assumption) ?_ (by k_in)); intros; (try k_sweep)))

set_option maxRecDepth 100000 in
set_option maxHeartbeats 8000000 in
theorem sub_fr {z : UInt64} {t : Tok}
    (B : Below A₀ base outer h₀) (F : Fr h₀ L s.heap m) (N : News h₀ L s.heap news) (T : Top p loose mean mg mb h₀)
    (hf : env.frame = some L) (hke : env.scope.kind = .function) (hroom : d + 15 < recursionLimit)
    (hx : (x, ndO dx (.float mu t1) (.float sg t2)) ∈ news) (hdx : (dx, dictOf [] 0) ∈ news) (hp2 : 0 < t2)
    (hs : (Float64.cmp (sg) 0 == some Ordering.lt) = false)
    (h : ∀ (x' dx' : Addr) h' tk t1 t2, 0 < tk → 0 < t1 → 0 < t2 → (Float64.cmp (sg) 0 == some Ordering.lt) = false → Fr h₀ L h' m → News h₀ L h' ((x', ndO dx' (.float (Float64.neg (Float64.sub mu z)) t1) (.float (sg) t2)) :: (dx', dictOf [] 0) :: news) → Q (.ref x') { s with heap := h', toks := tk }) :
    (K1 w.params).In h₀ → wpAny (model PySem.Challenge.rw_oz0057_01.row.prog w) (AA d env outer gs u) (binaryOp .Sub (.float z t) (.ref x)) Q E s := by
  k_fill
  intro X₀
  refine' sub_float_inst (K := (K1 w.params)) (C := 270) F X₀ (InstAt.of_news N hx hdx) rfl ?hC ?hS ?hR ?hF ?hU ?_
  case hC => k_is
  case hS => k_is
  case hR => k_is
  case hF => k_is
  case hU => k_is
  refine wpAny_call ?_
  refine' code_def (K := (K1 w.params)) B ?k2 ?k3 ?k4 T ?kA hf hke ?k6 ?k7 ?k8 ?k9 ?kB ?_ ?c2 ?c3 ?c4 ?c5
  case kA => exact rfl
  case k2 => k_asm
  case k3 => k_asm
  case k4 => k_asm
  case k6 => k_is
  case k7 => k_is
  case k8 => (show d < _; omega)
  case k9 => first | exact BindsTo.of_eq rfl | exact binds_K (by k_in) rfl (by k_is) rfl rfl rfl
  case kB => exact locs rfl
  case c5 => decide
  case c2 => exact rfl
  case c3 => exact rfl
  case c4 => exact rfl
  intro g' L' h' FG' F' N' B' X' T'
  dsimp only
  try k_fold
  k_steps
  refine' h _ _ _ _ _ _ ?p0 ?p1 ?p2 hs ?fa ?fb
  case fa => assumption
  case fb => exact news_drop2 (by assumption)
  case p0 => first | assumption | exact Nat.zero_lt_succ _ | (simp only [List.length_cons, List.length_nil]; exact Nat.zero_lt_succ _) | omega
  case p1 => first | assumption | exact Nat.zero_lt_succ _ | (simp only [List.length_cons, List.length_nil]; exact Nat.zero_lt_succ _) | omega
  case p2 => first | assumption | exact Nat.zero_lt_succ _ | (simp only [List.length_cons, List.length_nil]; exact Nat.zero_lt_succ _) | omega

set_option maxRecDepth 100000 in
set_option maxHeartbeats 8000000 in
theorem eq_rr (B : Below A₀ base outer h₀) (F : Fr h₀ L s.heap m) (N : News h₀ L s.heap news) (T : Top p loose mean mg mb h₀)
    (hf : env.frame = some L) (hke : env.scope.kind = .function) (hroom : d + 10 < recursionLimit)
    (hx : (x, ndO dx (.float mu t1) (.float sg t2)) ∈ news) (hdx : (dx, dictOf [] 0) ∈ news) (hy : (y, ndO dy (.float mu2 t3) (.float sg2 t4)) ∈ news) (hdy : (dy, dictOf [] 0) ∈ news) (hu : u + 40 < cLine)
    (h : ∀ h' tk, 0 < tk → Fr h₀ L h' m → News h₀ L h' news → Q (.bool (Float64.cmp mu mu2 == some Ordering.eq && Float64.cmp sg sg2 == some Ordering.eq)) { s with heap := h', toks := tk }) :
    (K1 w.params).In h₀ → wpAny (model PySem.Challenge.rw_oz0057_01.row.prog w) (AA d env outer gs u) (compareOp .Eq (.ref x) (.ref y)) Q E s := by
  k_fill
  intro X₀
  refine cmp_ofEq ?_
  refine' cmp_K (K := (K1 w.params)) (C := 270) ?hu F X₀ (InstAt.of_news N hx hdx) (InstAt.type (InstAt.of_news N hy hdy)) ?hn ?hS ?hF ?_
  case hu => (show u < _; omega)
  case hn => k_is
  case hS => k_is
  case hF => k_is
  refine wpAny_call ?_
  refine' code_def (K := (K1 w.params)) B ?k2 ?k3 ?k4 T ?kA hf hke ?k6 ?k7 ?k8 ?k9 ?kB ?_ ?c2 ?c3 ?c4 ?c5
  case kA => exact rfl
  case k2 => k_asm
  case k3 => k_asm
  case k4 => k_asm
  case k6 => k_is
  case k7 => k_is
  case k8 => (show d < _; omega)
  case k9 => first | exact BindsTo.of_eq rfl | exact binds_K (by k_in) rfl (by k_is) rfl rfl rfl
  case kB => exact locs rfl
  case c5 => decide
  case c2 => exact rfl
  case c3 => exact rfl
  case c4 => exact rfl
  intro g' L' h' FG' F' N' B' X' T'
  dsimp only
  try k_fold
  k_steps
  · rename (Float64.cmp mu mu2 == some Ordering.eq) = true => he
    rw [he, Bool.true_and] at h
    refine' h _ _ ?p0 ?fa ?fb
    case fa => assumption
    case fb => assumption
    case p0 => first | assumption | exact Nat.zero_lt_succ _ | (simp only [List.length_cons, List.length_nil]; exact Nat.zero_lt_succ _) | omega
  · rename (Float64.cmp mu mu2 == some Ordering.eq) = false => he
    rw [he]
    rw [he, Bool.false_and] at h
    refine' h _ _ ?p0 ?fa ?fb
    case fa => assumption
    case fb => assumption
    case p0 => first | assumption | exact Nat.zero_lt_succ _ | (simp only [List.length_cons, List.length_nil]; exact Nat.zero_lt_succ _) | omega

set_option maxRecDepth 100000 in
set_option maxHeartbeats 8000000 in
theorem near_c (B : Below A₀ base outer h₀) (F : Fr h₀ L s.heap m) (N : News h₀ L s.heap news) (T : Top p loose mean mg mb h₀)
    (hf : env.frame = some L) (hke : env.scope.kind = .function) (hroom : d + 10 < recursionLimit) {z b : Int} {t tb : Tok} (hb : 0 < b)
    (h : ∀ v h' tk t', 0 < tk → -b < v → v < b → Fr h₀ L h' m → News h₀ L h' news → Q (.int v t') { s with heap := h', toks := tk }) :
    (K1 w.params).In h₀ → wpAny (model PySem.Challenge.rw_oz0057_01.row.prog w) (AA d env outer gs u) (call (.ref 281) [.int z t, .int b tb] []) Q E s := by
  k_fill
  intro X₀
  refine wpAny_call ?_
  have f1 := Int.fmod_nonneg_of_pos z hb
  have f2 := Int.fmod_lt_of_pos z hb
  refine' code_def (K := (K1 w.params)) B ?k2 ?k3 ?k4 T ?kA hf hke ?k6 ?k7 ?k8 ?k9 ?kB ?_ ?c2 ?c3 ?c4 ?c5
  case kA => exact rfl
  case k2 => k_asm
  case k3 => k_asm
  case k4 => k_asm
  case k6 => k_is
  case k7 => k_is
  case k8 => (show d < _; omega)
  case k9 => first | exact BindsTo.of_eq rfl | exact binds_K (by k_in) rfl (by k_is) rfl rfl rfl
  case kB => exact locs rfl
  case c5 => decide
  case c2 => exact rfl
  case c3 => exact rfl
  case c4 => exact rfl
  intro g' L' h' FG' F' N' B' X' T'
  dsimp only
  try k_fold
  k_steps
  all_goals (refine' h _ _ _ _ ?p0 ?fc ?fd ?fa ?fb; (case fa => assumption); (case fb => assumption); (case fc => omega); (case fd => omega); (case p0 => first | assumption | exact Nat.zero_lt_succ _ | (simp only [List.length_cons, List.length_nil]; exact Nat.zero_lt_succ _) | omega))

theorem get_propS {prog : Program} {w : World} {A : Around} {E : Value → Shared → Prop} {s : Shared} {K : Frag} {h₀ : Heap} {L x C : Addr} {m : Str → Option Value} {ox : Obj} {name : Str} {expr : Bool} {Q : Value → Shared → Prop} {p fget : Addr} {rest : List Value} {od : Obj}
    (F : Fr h₀ L s.heap m) (X₀ : K.In h₀) (I : InstAt s.heap x ox C (some od)) (hg : plainGet K C name = true) (hc : isClsIn K C = true)
    (ha : findIn K (.ref C) name = some (some (.ref p))) (hn : specialIn K (.ref p) "__get__" = some (some (.builtin "property.__get__"))) (ht : takesIn K (.ref p) = some true) (hp : recIn K p "property" = some (.ref fget :: rest))
    (h : codeAny (model prog w) A.in1 (.call (.ref fget) ⟨[.ref x], []⟩) (fun r s' => match r with | .ok (.ret v) => wpAny (model prog w) A (handedOut v) Q E s' | .ok _ => False | .error e => wpAny (model prog w) A (noteIf true (.ref x) (.str name s.toks) e) (fun _ s'' => E e s'') E s') { s with toks := s.toks + 1 }) :
    wpAny (model prog w) A (getAttr (.ref x) name expr) Q E s :=
  get_bind (X₀.keeps F.keep) I (plainGet_of hg).1 (findObj_data hc ha hn ht) (plainGet_of hg).2 (wpAny_call (prop_get (s := { s with toks := s.toks + 1 }) (X₀.keeps F.keep) hp h))
set_option maxRecDepth 100000 in
set_option maxHeartbeats 8000000 in
theorem mean_c {ex : Bool} (B : Below A₀ base outer h₀) (F : Fr h₀ L s.heap m) (N : News h₀ L s.heap news) (T : Top p loose mean mg mb h₀)
    (hf : env.frame = some L) (hke : env.scope.kind = .function) (hroom : d + 10 < recursionLimit)
    (hx : (x, ndO dx (.float mu t1) (.float sg t2)) ∈ news) (hdx : (dx, dictOf [] 0) ∈ news)
    (h : ∀ h' tk, 0 < tk → Fr h₀ L h' m → News h₀ L h' news → Q (.float mu t1) { s with heap := h', toks := tk }) :
    (K1 w.params).In h₀ → wpAny (model PySem.Challenge.rw_oz0057_01.row.prog w) (AA d env outer gs u) (getAttr (.ref x) (Str.ofString "mean") ex) Q E s := by
  k_fill
  intro X₀
  refine' get_propS (K := (K1 w.params)) (C := 270) F X₀ (InstAt.of_news N hx hdx) ?hg ?hh ?ha ?hn ?ht ?hp ?_
  case hg => k_is
  case hh => k_is
  case ha => k_is
  case hn => k_is
  case ht => k_is
  case hp => k_is
  refine' code_def (K := (K1 w.params)) B ?k2 ?k3 ?k4 T ?kA hf hke ?k6 ?k7 ?k8 ?k9 ?kB ?_ ?c2 ?c3 ?c4 ?c5
  case kA => exact rfl
  case k2 => k_asm
  case k3 => k_asm
  case k4 => k_asm
  case k6 => k_is
  case k7 => k_is
  case k8 => (simp only [depth_in1]; show d < _; omega)
  case k9 => first | exact BindsTo.of_eq rfl | exact binds_K (by k_in) rfl (by k_is) rfl rfl rfl
  case kB => exact locs rfl
  case c5 => decide
  case c2 => exact rfl
  case c3 => exact rfl
  case c4 => exact rfl
  intro g' L' h' FG' F' N' B' X' T'
  dsimp only
  try k_fold
  k_steps
  refine' h _ _ ?p0 ?fa ?fb
  case fa => assumption
  case fb => assumption
  case p0 => first | assumption | exact Nat.zero_lt_succ _ | (simp only [List.length_cons, List.length_nil]; exact Nat.zero_lt_succ _) | omega

set_option maxRecDepth 100000 in
set_option maxHeartbeats 8000000 in
theorem stdev_c {ex : Bool} (B : Below A₀ base outer h₀) (F : Fr h₀ L s.heap m) (N : News h₀ L s.heap news) (T : Top p loose mean mg mb h₀)
    (hf : env.frame = some L) (hke : env.scope.kind = .function) (hroom : d + 10 < recursionLimit)
    (hx : (x, ndO dx (.float mu t1) (.float sg t2)) ∈ news) (hdx : (dx, dictOf [] 0) ∈ news)
    (h : ∀ h' tk, 0 < tk → Fr h₀ L h' m → News h₀ L h' news → Q (.float sg t2) { s with heap := h', toks := tk }) :
    (K1 w.params).In h₀ → wpAny (model PySem.Challenge.rw_oz0057_01.row.prog w) (AA d env outer gs u) (getAttr (.ref x) (Str.ofString "stdev") ex) Q E s := by
  k_fill
  intro X₀
  refine' get_propS (K := (K1 w.params)) (C := 270) F X₀ (InstAt.of_news N hx hdx) ?hg ?hh ?ha ?hn ?ht ?hp ?_
  case hg => k_is
  case hh => k_is
  case ha => k_is
  case hn => k_is
  case ht => k_is
  case hp => k_is
  refine' code_def (K := (K1 w.params)) B ?k2 ?k3 ?k4 T ?kA hf hke ?k6 ?k7 ?k8 ?k9 ?kB ?_ ?c2 ?c3 ?c4 ?c5
  case kA => exact rfl
  case k2 => k_asm
  case k3 => k_asm
  case k4 => k_asm
  case k6 => k_is
  case k7 => k_is
  case k8 => (simp only [depth_in1]; show d < _; omega)
  case k9 => first | exact BindsTo.of_eq rfl | exact binds_K (by k_in) rfl (by k_is) rfl rfl rfl
  case kB => exact locs rfl
  case c5 => decide
  case c2 => exact rfl
  case c3 => exact rfl
  case c4 => exact rfl
  intro g' L' h' FG' F' N' B' X' T'
  dsimp only
  try k_fold
  k_steps
  refine' h _ _ ?p0 ?fa ?fb
  case fa => assumption
  case fb => assumption
  case p0 => first | assumption | exact Nat.zero_lt_succ _ | (simp only [List.length_cons, List.length_nil]; exact Nat.zero_lt_succ _) | omega

end
end Mine


end CT1
section Loops
open PySem PySem.W PySem.Calls PyProof.Rows PySem.Spec
set_option Elab.async false
set_option linter.unusedVariables false
namespace Mine
section
variable {prog : Program} {w : World} {A : Around} {E : Value → Shared → Prop} {s : Shared} {env : Env} {h₀ : Heap} {target : Expr} {body : List Stmt} {Q : Flow → Shared → Prop}

/-- what a turn must leave: the invariant J, the iterator's object still there -/
def TEnd (h₀ : Heap) (L : Addr) (J : (Str → Option Value) → List (Addr × Obj) → Prop) (I : Addr) (oI : Obj) (s₁ : Shared) (s₂ : Shared) : Prop :=
  ∃ h' tk m' news' nx, s₂ = { s₁ with heap := h', toks := tk } ∧ Fr h₀ L h' m' ∧ News h₀ L h' news' ∧ (I, oI) ∈ news' ∧ (∀ p ∈ nx, p ∈ news') ∧ (∀ p ∈ nx, p.1 ≠ I) ∧ J m' nx
def TPost (h₀ : Heap) (L : Addr) (J : (Str → Option Value) → List (Addr × Obj) → Prop) (I : Addr) (oI : Obj) (s₁ : Shared) (Q : Flow → Shared → Prop) (f : Flow) (s₂ : Shared) : Prop :=
  match f with
  | .ret v => Q (.ret v) s₂
  | .brk => Q .next s₂
  | _ => TEnd h₀ L J I oI s₁ s₂
theorem TEnd.intro {L : Addr} {J : (Str → Option Value) → List (Addr × Obj) → Prop} {I : Addr} {oI : Obj} {s₁ : Shared} {h' : Heap} {tk : Nat} {m' : Str → Option Value} {news' nx : List (Addr × Obj)}
    (F : Fr h₀ L h' m') (N : News h₀ L h' news') (hI : (I, oI) ∈ news') (hn : ∀ p ∈ nx, p ∈ news') (ho : ∀ p ∈ nx, p.1 ≠ I) (hj : J m' nx) : TEnd h₀ L J I oI s₁ { s₁ with heap := h', toks := tk } :=
  ⟨h', tk, m', news', nx, rfl, F, N, hI, hn, ho, hj⟩

theorem news_sub {h₀ h : Heap} {L : Addr} {l l' : List (Addr × Obj)} (N : News h₀ L h l) (hs : ∀ p ∈ l', p ∈ l) : News h₀ L h l' := fun p hp => N p (hs p hp)

/-- the plain invariant: the names of `stored` forgotten, all else as it was, the ledger as it was -/
def Still (stored : List Str) (m₀ : Str → Option Value) (news : List (Addr × Obj)) (m : Str → Option Value) (nx : List (Addr × Obj)) : Prop :=
  nx = news ∧ ∀ y, stored.contains y = false → m y = m₀ y
/-- the outer loop over range(len(row)): the row's list and one cell stand in the ledger, the name row is kept, all other names are forgotten -/
def RowJ (rn : Str) (D : Addr) (o1 : Obj) (c : Addr) (m : Str → Option Value) (nx : List (Addr × Obj)) : Prop :=
  ∃ (u : Str → Option Value) (oc : Obj) (v : Option Value), m = (fun y => if y = rn then some (.ref D) else u y) ∧ nx = [(D, o1), (c, oc)] ∧ oc.data = .cell v
/-- an item of a list of ints, at an index in bounds: some int -/
theorem item_any {value slice : PySem.Expr} {L : Addr} {news : List (Addr × Obj)} {D : Addr} {ws : List Value} {ns : List Int} {k : Int} {kn : Nat} {t : Tok} {Q : Value → Shared → Prop} (N : News h₀ L s.heap news) (hm : (D, W.listOf ws.toArray kn) ∈ news) (hI : IntsAre ws ns)
    (hlo : -(ns.length : Int) ≤ k) (hhi : k < (ns.length : Int)) (hsz : ns.length < 2 ^ 62) (h : ∀ v t, Q (.int v t) s)
    (hs : subscripted slice false (.ref D) (.int k t) = operate [.ref D, .int k t] (getItem (.ref D) (.int k t)) := by with_unfolding_all rfl) :
    wpAny (model prog w) A (subscriptTail value slice (.ref D) (.int k t)) Q E s := by
  have hl : s.heap.IsList D ws.toArray := ⟨_, (N _ hm).1, rfl, kn, rfl⟩
  have hlen : ws.toArray.size = ns.length := by simp [hI.length]
  by_cases h0 : 0 ≤ k
  · have hlt : k.toNat < ns.length := by omega
    obtain ⟨t', hx⟩ := hI.get k.toNat ns[k.toNat] (by simp [hlt])
    exact tail_any hl.typeIs slot_list_getitem.lookup (wpAny_getItem_list hl h0 (by omega) (by simpa using hx) (h _ _)) hs
  · have hlt : (k + ns.length).toNat < ns.length := by omega
    obtain ⟨t', hx⟩ := hI.get (k + ns.length).toNat ns[(k + ns.length).toNat] (by simp [hlt])
    exact tail_any hl.typeIs slot_list_getitem.lookup (wpAny_getItem_list_neg hl (by omega) (by rw [hlen]; exact hlo) (by omega) (by rw [hlen]; simpa using hx) (h _ _)) hs
end
end Mine
namespace Mine
open PyProof.Rows.LCg
def SrcT (ax : Addr) (its : Array Value) (news : List (Addr × Obj)) : Prop := ∃ o, (ax, o) ∈ news ∧ o.cls = .type "tuple" ∧ ∃ n, o.data = .seq its n
section
variable {prog : Program} {w : World} {A : Around} {E : Value → Shared → Prop} {s : Shared} {env : Env} {h₀ : Heap} {L : Addr} {m : Str → Option Value}
def CompSrcT (prog : Program) (w : World) (A : Around) (h₀ : Heap) (L : Addr) (m : Str → Option Value) (env : Env) (elt : PySem.Expr) (x : Str) (scope : Scope) (cl : List (Str × Addr)) (Fin : Shared → List Value → List (Addr × Obj) → Prop) (xv : Value) (s₁ : Shared) : Prop :=
  ∃ ax its news, xv = .ref ax ∧ A.handled = none ∧ Fr h₀ L s₁.heap m ∧ News h₀ L s₁.heap news ∧ SrcT ax its news ∧ its.size ≤ sizeLine ∧
    ∀ s₂ : Shared, (∃ h, s₂ = { s₁ with heap := h }) → CompRest prog w A h₀ L m env elt x scope cl s₂ (SrcT ax its) (fun i v => its[i]? = some v) (Fin s₂) its.size 0 [] news
end
end Mine
namespace Mine
def keepB : List Bool → List (Addr × Obj) → List (Addr × Obj)
  | true :: bs, p :: r => p :: keepB bs r
  | false :: bs, _ :: r => keepB bs r
  | _, _ => []
abbrev tupO (v1 v2 : Value) : Obj := { cls := .type "tuple", data := .seq [v1, v2].toArray }
def PairAt (news : List (Addr × Obj)) (P : Int → Int → Prop) (v : Value) : Prop := ∃ (T : Addr) (a b : Int) (ta tb : Tok), v = .ref T ∧ (T, tupO (.int a ta) (.int b tb)) ∈ news ∧ P a b
def IntAt (P : Int → Prop) (v : Value) : Prop := ∃ a t, v = .int a t ∧ P a
end Mine
namespace Mine
end Mine

end Loops
section FL
open PySem PySem.W PySem.Calls PyProof.Rows
open PySem.Builtin.Math (vectorNorm)
set_option linter.unusedVariables false
namespace Mine
open PySem.Float64 (V Right dist infMag pack decode val sgn)

def Fv (x : UInt64) (v : Int) : Prop := ∃ s m e, Float64.decode x = .fin s m e ∧ Float64.val x = v
def Dy (x : UInt64) (n : Int) (k : Nat) : Prop := Fv x (n * 2 ^ k)
abbrev NN (x : UInt64) : Prop := (Float64.cmp x 0 == some Ordering.lt) = false

theorem repr_V : ∀ (j q : Nat), q < 2 ^ 53 → j ≤ 2045 → ∃ t, t < infMag ∧ V t = q * 2 ^ j
  | 0, q, hq, _ => by
    refine ⟨q, by unfold infMag; omega, ?_⟩
    have := Float64.V_at (k := 0) (q := q) (by omega) (.inr rfl)
    simpa using this
  | j + 1, q, hq, hj => by
    by_cases h : 2 ^ 52 ≤ q
    · refine ⟨(j + 1) * 2 ^ 52 + q, ?_, Float64.V_at (by omega) (.inl h)⟩
      unfold infMag
      have : (j + 1) * 2 ^ 52 ≤ 2045 * 2 ^ 52 := Nat.mul_le_mul_right _ hj
      omega
    · obtain ⟨t, ht, hV⟩ := repr_V j (2 * q) (by omega) (by omega)
      refine ⟨t, ht, ?_⟩
      have e3 : (2 : Nat) ^ (j + 1) = 2 ^ j * 2 := Nat.pow_succ _ _
      rw [hV, e3]
      generalize (2 : Nat) ^ j = z
      rw [Nat.mul_comm z 2, ← Nat.mul_assoc, Nat.mul_comm 2 q]
theorem repr_V' (j q : Nat) (hq : q ≤ 2 ^ 53) (hj : j ≤ 2044) : ∃ t, t < infMag ∧ V t = q * 2 ^ j := by
  by_cases h : q < 2 ^ 53
  · exact repr_V j q h (by omega)
  · have e : q = 2 ^ 53 := by omega
    obtain ⟨t, ht, hV⟩ := repr_V (j + 1) (2 ^ 52) (by decide) (by omega)
    refine ⟨t, ht, ?_⟩
    have e3 : (2 : Nat) ^ (j + 1) = 2 ^ j * 2 := Nat.pow_succ _ _
    rw [hV, e, e3]
    generalize (2 : Nat) ^ j = z
    omega
theorem V_lt_top {q j : Nat} (hq : q ≤ 2 ^ 53 - 1) (hj : j ≤ 2045) : q * 2 ^ j ≤ (2 ^ 53 - 1) * 2 ^ 2045 := Nat.mul_le_mul hq (Nat.pow_le_pow_right (by decide) hj)
theorem not_over {D W q j : Nat} (hD : 0 < D) (hW : W ≤ D * (q * 2 ^ j)) (hq : q ≤ 2 ^ 53 - 1) (hj : j ≤ 2045) : ¬ D * ((2 ^ 54 - 1) * 2 ^ 2045) ≤ 2 * W := by
  intro h
  have h1 := V_lt_top hq hj
  have h2 : D * (q * 2 ^ j) ≤ D * ((2 ^ 53 - 1) * 2 ^ 2045) := Nat.mul_le_mul_left D h1
  have h3 : (0 : Nat) < 2 ^ 2045 := Nat.two_pow_pos _
  have h4 : D * ((2 ^ 54 - 1) * 2 ^ 2045) = 2 * (D * ((2 ^ 53 - 1) * 2 ^ 2045)) + D * 2 ^ 2045 := by
    generalize (2 : Nat) ^ 2045 = Z
    have : (2 ^ 54 - 1) * Z = 2 * ((2 ^ 53 - 1) * Z) + Z := by omega
    rw [this, Nat.mul_add, Nat.mul_left_comm]
  have h5 : 0 < D * 2 ^ 2045 := Nat.mul_pos hD h3
  omega
theorem right_exact {r : UInt64} {neg : Bool} {W D q j : Nat} (h : Right r neg W D) (hD : 0 < D) (hW : W = D * (q * 2 ^ j)) (hq : q < 2 ^ 53) (hj : j ≤ 2045) :
    ∃ t, r = pack neg t ∧ t < infMag ∧ V t = q * 2 ^ j := by
  obtain ⟨t, rfl, ht, hov, hn⟩ := h
  obtain ⟨t0, ht0, hV0⟩ := repr_V j q hq hj
  have hlt : t < infMag := by
    refine Nat.lt_of_le_of_ne ht fun e => not_over (q := q) (j := j) hD (Nat.le_of_eq hW) (by omega) hj (hov.mp e)
  refine ⟨t, rfl, hlt, ?_⟩
  have h1 := (hn hlt t0).1
  rw [hV0, hW] at h1
  have h2 : dist (D * (q * 2 ^ j)) (D * (q * 2 ^ j)) = 0 := by unfold dist; omega
  rw [h2] at h1
  unfold dist at h1
  exact Nat.eq_of_mul_eq_mul_left hD (by omega)
theorem right_err {r : UInt64} {neg : Bool} {W D P : Nat} (h : Right r neg W D) (hD : 0 < D) (hP : 53 ≤ P) (hP2 : P ≤ 2097) (hW : W ≤ D * 2 ^ P) :
    ∃ t, r = pack neg t ∧ t < infMag ∧ 2 * dist W (D * V t) ≤ D * 2 ^ (P - 53) := by
  obtain ⟨t, rfl, ht, hov, hn⟩ := h
  obtain ⟨j, hj⟩ : ∃ j, P = 53 + j := ⟨P - 53, by omega⟩
  subst hj
  have e2 : 53 + j - 53 = j := by omega
  rw [e2]
  rw [Nat.pow_add] at hW
  have hlt : t < infMag := by
    refine Nat.lt_of_le_of_ne ht fun e => ?_
    refine not_over (W := W) (q := 2 ^ 52) (j := j + 1) hD ?_ (by decide) (by omega) (hov.mp e)
    refine Nat.le_trans hW (Nat.le_of_eq ?_)
    have e3 : (2 : Nat) ^ (j + 1) = 2 ^ j * 2 := Nat.pow_succ _ _
    rw [e3]
    generalize (2 : Nat) ^ j = z
    congr 1
    omega
  refine ⟨t, rfl, hlt, ?_⟩
  have hN : 0 < D * 2 ^ j := Nat.mul_pos hD (Nat.two_pow_pos j)
  have hdm := Nat.div_add_mod W (D * 2 ^ j)
  have hmod := Nat.mod_lt W hN
  have hq : W / (D * 2 ^ j) ≤ 2 ^ 53 := by
    refine Nat.div_le_of_le_mul ?_
    refine Nat.le_trans hW (Nat.le_of_eq ?_)
    ac_rfl
  generalize hQ : W / (D * 2 ^ j) = Q at *
  generalize hR : W % (D * 2 ^ j) = R at *
  have hDQ : D * (Q * 2 ^ j) = D * 2 ^ j * Q := by ac_rfl
  by_cases hr : 2 * R ≤ D * 2 ^ j
  · obtain ⟨t0, ht0, hV0⟩ := repr_V' j Q hq (by omega)
    have h1 := (hn hlt t0).1
    rw [hV0, hDQ] at h1
    unfold dist at *
    omega
  · have hQ2 : Q + 1 ≤ 2 ^ 53 := by
      rcases Nat.lt_or_ge Q (2 ^ 53) with h | h
      · omega
      · have : Q = 2 ^ 53 := by omega
        subst this
        have : D * 2 ^ j * 2 ^ 53 = D * (2 ^ 53 * 2 ^ j) := by ac_rfl
        omega
    obtain ⟨t0, ht0, hV0⟩ := repr_V' j (Q + 1) hQ2 (by omega)
    have h1 := (hn hlt t0).1
    have hDQ1 : D * ((Q + 1) * 2 ^ j) = D * 2 ^ j * Q + D * 2 ^ j := by rw [Nat.add_mul, Nat.one_mul, Nat.mul_add, hDQ]
    rw [hV0, hDQ1] at h1
    unfold dist at *
    omega
theorem fv_pack (neg : Bool) {t : Nat} (h : t < infMag) : Fv (pack neg t) (sgn neg (V t)) := by
  obtain ⟨m, e, hd, _⟩ := Float64.decode_pack neg h
  exact ⟨_, _, _, hd, Float64.val_pack neg h⟩
theorem fv_zero (b : Bool) : Fv (Float64.zero b) 0 := by
  have := fv_pack b (t := 0) (by decide)
  have e : sgn b (V 0) = 0 := by cases b <;> decide
  rw [e] at this
  exact this
theorem fv_zero' : Fv 0 0 := fv_zero false
theorem sgn_eq (neg : Bool) (n : Nat) : sgn neg n = if neg then -(n : Int) else n := by cases neg <;> rfl
theorem fv_form {x : UInt64} {v : Int} (h : Fv x v) : ∃ q k, v.natAbs = q * 2 ^ k ∧ q < 2 ^ 53 ∧ k ≤ 2045 := by
  obtain ⟨s, m, e, hd, rfl⟩ := h
  have := Float64.decode_le hd
  exact ⟨m, (e + 1074).toNat, Float64.val_natAbs hd, this.1, by omega⟩
theorem fv_uniq {x : UInt64} {v w : Int} (h : Fv x v) (h' : Fv x w) : v = w := by
  obtain ⟨_, _, _, _, rfl⟩ := h
  obtain ⟨_, _, _, _, rfl⟩ := h'
  rfl
theorem dist_sgn {w : Int} {A : Nat} : (sgn (decide (w < 0)) A - w).natAbs = dist w.natAbs A := by
  rw [sgn_eq]
  unfold dist
  by_cases hn : w < 0
  · rw [decide_eq_true hn, if_pos rfl]; omega
  · rw [decide_eq_false hn, if_neg (by decide)]; omega
theorem dist_sgn2 {b : Bool} {A B : Nat} : (sgn b A - sgn b B).natAbs = dist B A := by
  rw [sgn_eq, sgn_eq]
  unfold dist
  split <;> omega
theorem add_exact {x y : UInt64} {a b : Int} {q j : Nat} (hx : Fv x a) (hy : Fv y b) (hs : (a + b).natAbs = q * 2 ^ j) (hq : q < 2 ^ 53) (hj : j ≤ 2045) : Fv (Float64.add x y) (a + b) := by
  obtain ⟨s, m, e, hd, rfl⟩ := hx
  obtain ⟨s', m', e', hd', rfl⟩ := hy
  obtain ⟨h0, h1⟩ := Float64.add_right hd hd'
  by_cases hz : val x + val y = 0
  · rw [h0 hz, hz]; exact fv_zero _
  · obtain ⟨t, ht, hlt, hV⟩ := right_exact (h1 hz) (by decide) (by rw [hs, Nat.one_mul]) hq hj
    rw [ht]
    have := fv_pack (decide (val x + val y < 0)) hlt
    rw [hV, ← hs] at this
    have e2 : sgn (decide (val x + val y < 0)) (val x + val y).natAbs = val x + val y := by
      rw [sgn_eq]
      by_cases hn : val x + val y < 0
      · rw [decide_eq_true hn, if_pos rfl]; omega
      · rw [decide_eq_false hn, if_neg (by decide)]; omega
    rw [e2] at this
    exact this
theorem add_err {x y : UInt64} {a b : Int} {P : Nat} (hx : Fv x a) (hy : Fv y b) (hP : 53 ≤ P) (hP2 : P ≤ 2097) (hs : (a + b).natAbs ≤ 2 ^ P) :
    ∃ v, Fv (Float64.add x y) v ∧ 2 * (v - (a + b)).natAbs ≤ 2 ^ (P - 53) := by
  obtain ⟨s, m, e, hd, rfl⟩ := hx
  obtain ⟨s', m', e', hd', rfl⟩ := hy
  obtain ⟨h0, h1⟩ := Float64.add_right hd hd'
  by_cases hz : val x + val y = 0
  · refine ⟨0, ?_, ?_⟩
    · rw [h0 hz]; exact fv_zero _
    · rw [hz]; exact Nat.zero_le _
  · obtain ⟨t, ht, hlt, hV⟩ := right_err (h1 hz) (by decide) hP hP2 (by rw [Nat.one_mul]; exact hs)
    refine ⟨sgn (decide (val x + val y < 0)) (V t), ?_, ?_⟩
    · rw [ht]; exact fv_pack _ hlt
    · rw [Nat.one_mul, Nat.one_mul] at hV
      rw [dist_sgn]
      exact hV
theorem mul_val {a b : Bool} {m k : Nat} : sgn a m * sgn b k = sgn (a != b) (m * k) := by
  cases a <;> cases b <;> simp [sgn_eq, Int.natCast_mul, Int.neg_mul, Int.mul_neg]
theorem val_sgn {x : UInt64} {s : Bool} {m : Nat} {e : Int} (h : Float64.decode x = .fin s m e) : val x = sgn s (val x).natAbs := by
  rw [Float64.val_natAbs h, Float64.val_eq h]
theorem mul_exact {x y : UInt64} {a b : Int} {q j : Nat} (hx : Fv x a) (hy : Fv y b) (hs : (a * b).natAbs = 2 ^ 1074 * (q * 2 ^ j)) (hq : q < 2 ^ 53) (hj : j ≤ 2045) : ∃ v, Fv (Float64.mul x y) v ∧ v * 2 ^ 1074 = a * b := by
  obtain ⟨s, m, e, hd, rfl⟩ := hx
  obtain ⟨s', m', e', hd', rfl⟩ := hy
  have h := Float64.mul_right hd hd'
  rw [Int.natAbs_mul] at hs
  obtain ⟨t, ht, hlt, hV⟩ := right_exact h (Nat.two_pow_pos _) hs hq hj
  refine ⟨sgn (s != s') (V t), ?_, ?_⟩
  · rw [ht]; exact fv_pack _ hlt
  · rw [val_sgn hd, val_sgn hd', mul_val, hs, hV]
    have : ((2 : Int) ^ 1074) = ((2 ^ 1074 : Nat) : Int) := by simp
    rw [this, ← Float64.sgn_mul, Nat.mul_comm]
theorem mul_err {x y : UInt64} {a b : Int} {P : Nat} (hx : Fv x a) (hy : Fv y b) (hP : 53 ≤ P) (hP2 : P ≤ 2097) (hs : (a * b).natAbs ≤ 2 ^ 1074 * 2 ^ P) :
    ∃ v, Fv (Float64.mul x y) v ∧ 2 * (v * 2 ^ 1074 - a * b).natAbs ≤ 2 ^ 1074 * 2 ^ (P - 53) := by
  obtain ⟨s, m, e, hd, rfl⟩ := hx
  obtain ⟨s', m', e', hd', rfl⟩ := hy
  have h := Float64.mul_right hd hd'
  rw [Int.natAbs_mul] at hs
  obtain ⟨t, ht, hlt, hV⟩ := right_err h (Nat.two_pow_pos _) hP hP2 hs
  refine ⟨sgn (s != s') (V t), ?_, ?_⟩
  · rw [ht]; exact fv_pack _ hlt
  · rw [val_sgn hd, val_sgn hd', mul_val]
    have : ((2 : Int) ^ 1074) = ((2 ^ 1074 : Nat) : Int) := by simp
    rw [this, ← Float64.sgn_mul, Nat.mul_comm (V t)]
    refine Nat.le_trans (Nat.mul_le_mul_left 2 ?_) hV
    exact Nat.le_of_eq dist_sgn2
theorem div_exact {x y : UInt64} {a b : Int} {q j : Nat} (hx : Fv x a) (hy : Fv y b) (hb : b ≠ 0) (hs : a.natAbs * 2 ^ 1074 = b.natAbs * (q * 2 ^ j)) (hq : q < 2 ^ 53) (hj : j ≤ 2045) : ∃ v, Fv (Float64.div x y) v ∧ v * b = a * 2 ^ 1074 := by
  obtain ⟨s, m, e, hd, rfl⟩ := hx
  obtain ⟨s', m', e', hd', rfl⟩ := hy
  have hm : m' ≠ 0 := by
    rintro rfl
    apply hb
    rw [Float64.val_eq hd']
    cases s' <;> simp [sgn_eq]
  have h := Float64.div_right hd hd' hm
  obtain ⟨t, ht, hlt, hV⟩ := right_exact h (by omega) hs hq hj
  refine ⟨sgn (s != s') (V t), ?_, ?_⟩
  · rw [ht]; exact fv_pack _ hlt
  · have e1 : ((2 : Int) ^ 1074) = ((2 ^ 1074 : Nat) : Int) := by simp
    rw [val_sgn hd, val_sgn hd', mul_val, e1, ← Float64.sgn_mul, hs, hV, Nat.mul_comm]
    cases s <;> cases s' <;> rfl
theorem div_err {x y : UInt64} {a b : Int} {P : Nat} (hx : Fv x a) (hy : Fv y b) (hb : b ≠ 0) (hP : 53 ≤ P) (hP2 : P ≤ 2097) (hs : a.natAbs * 2 ^ 1074 ≤ b.natAbs * 2 ^ P) :
    ∃ v, Fv (Float64.div x y) v ∧ 2 * (v * b - a * 2 ^ 1074).natAbs ≤ b.natAbs * 2 ^ (P - 53) := by
  obtain ⟨s, m, e, hd, rfl⟩ := hx
  obtain ⟨s', m', e', hd', rfl⟩ := hy
  have hm : m' ≠ 0 := by
    rintro rfl
    apply hb
    rw [Float64.val_eq hd']
    cases s' <;> simp [sgn_eq]
  have h := Float64.div_right hd hd' hm
  obtain ⟨t, ht, hlt, hV⟩ := right_err h (by omega) hP hP2 hs
  refine ⟨sgn (s != s') (V t), ?_, ?_⟩
  · rw [ht]; exact fv_pack _ hlt
  · have e1 : ((2 : Int) ^ 1074) = ((2 ^ 1074 : Nat) : Int) := by simp
    have e2 : val x * ((2 ^ 1074 : Nat) : Int) = sgn s ((val x).natAbs * 2 ^ 1074) := by rw [Float64.sgn_mul, ← val_sgn hd]
    have e3 : sgn (s != s') (V t) * val y = sgn s (V t * (val y).natAbs) := by
      rw [val_sgn hd', mul_val, Float64.sgn_natAbs]
      cases s <;> cases s' <;> rfl
    rw [e1, e2, e3, Nat.mul_comm (V t)]
    refine Nat.le_trans (Nat.mul_le_mul_left 2 ?_) hV
    exact Nat.le_of_eq dist_sgn2
theorem fv_neg {x : UInt64} {a : Int} (hx : Fv x a) : Fv (Float64.neg x) (-a) := by
  obtain ⟨s, m, e, hd, rfl⟩ := hx
  exact ⟨_, _, _, Float64.neg_decode hd, Float64.neg_val hd⟩
theorem sub_def (x y : UInt64) : Float64.sub x y = Float64.add x (Float64.neg y) := by unfold Float64.sub; rfl
theorem sub_exact {x y : UInt64} {a b : Int} {q j : Nat} (hx : Fv x a) (hy : Fv y b) (hs : (a - b).natAbs = q * 2 ^ j) (hq : q < 2 ^ 53) (hj : j ≤ 2045) : Fv (Float64.sub x y) (a - b) := by
  have h := add_exact hx (fv_neg hy) (q := q) (j := j) (by rw [← Int.sub_eq_add_neg]; exact hs) hq hj
  rw [← Int.sub_eq_add_neg] at h
  rw [sub_def]
  exact h
theorem sub_err {x y : UInt64} {a b : Int} {P : Nat} (hx : Fv x a) (hy : Fv y b) (hP : 53 ≤ P) (hP2 : P ≤ 2097) (hs : (a - b).natAbs ≤ 2 ^ P) :
    ∃ v, Fv (Float64.sub x y) v ∧ 2 * (v - (a - b)).natAbs ≤ 2 ^ (P - 53) := by
  have h := add_err hx (fv_neg hy) hP hP2 (by rw [← Int.sub_eq_add_neg]; exact hs)
  rw [← Int.sub_eq_add_neg] at h
  rw [sub_def]
  exact h
theorem abs_decode {x : UInt64} {s : Bool} {m : Nat} {e : Int} (h : Float64.decode x = .fin s m e) : Float64.decode (Float64.abs x) = .fin false m e := by
  have hnan : Float64.isNaN x = false := by unfold Float64.isNaN; rw [h]
  have hp : (Float64.abs x).toNat = x.toNat % 2 ^ 63 := by
    unfold Float64.abs
    rw [if_neg (by simp [hnan]), Float64.pack_toNat false (by omega)]
    simp
  have h1 : (Float64.abs x).toNat / 2 ^ 63 = 0 := by rw [hp]; omega
  have h2 : (Float64.abs x).toNat / 2 ^ 52 % 2048 = x.toNat / 2 ^ 52 % 2048 := by rw [hp]; omega
  have h3 : (Float64.abs x).toNat % 2 ^ 52 = x.toNat % 2 ^ 52 := by rw [hp]; omega
  unfold Float64.decode at h ⊢
  simp only [h1, h2, h3] at h ⊢
  split at h
  · split at h <;> cases h
  · rename_i c1
    rw [if_neg c1]
    split at h
    · rename_i c2
      rw [if_pos c2]
      cases h
      rfl
    · rename_i c2
      rw [if_neg c2]
      cases h
      rfl
theorem fv_abs {x : UInt64} {a : Int} (hx : Fv x a) : Fv (Float64.abs x) (a.natAbs : Int) := by
  obtain ⟨s, m, e, hd, rfl⟩ := hx
  refine ⟨_, _, _, abs_decode hd, ?_⟩
  rw [Float64.val_eq (abs_decode hd), Float64.val_natAbs hd, sgn_eq]
  rfl
theorem cmp_fv {x y : UInt64} {a b : Int} (hx : Fv x a) (hy : Fv y b) : Float64.cmp x y = some (compare a b) := by
  obtain ⟨s, m, e, hd, rfl⟩ := hx
  obtain ⟨s', m', e', hd', rfl⟩ := hy
  exact Float64.cmp_right hd hd'
theorem cmp_eq {x y : UInt64} {a b : Int} (hx : Fv x a) (hy : Fv y b) : (Float64.cmp x y == some Ordering.eq) = decide (a = b) := by
  rw [cmp_fv hx hy]
  rcases Int.lt_trichotomy a b with h | h | h
  · rw [Int.compare_eq_lt.mpr h, decide_eq_false (by omega)]; rfl
  · rw [Int.compare_eq_eq.mpr h, decide_eq_true h]; rfl
  · rw [Int.compare_eq_gt.mpr h, decide_eq_false (by omega)]; rfl
theorem cmp_lt {x y : UInt64} {a b : Int} (hx : Fv x a) (hy : Fv y b) : (Float64.cmp x y == some Ordering.lt) = decide (a < b) := by
  rw [cmp_fv hx hy]
  rcases Int.lt_trichotomy a b with h | h | h
  · rw [Int.compare_eq_lt.mpr h, decide_eq_true h]; rfl
  · rw [Int.compare_eq_eq.mpr h, decide_eq_false (by omega)]; rfl
  · rw [Int.compare_eq_gt.mpr h, decide_eq_false (by omega)]; rfl
theorem cmp_gt {x y : UInt64} {a b : Int} (hx : Fv x a) (hy : Fv y b) : (Float64.cmp x y == some Ordering.gt) = decide (b < a) := by
  rw [cmp_fv hx hy]
  rcases Int.lt_trichotomy a b with h | h | h
  · rw [Int.compare_eq_lt.mpr h, decide_eq_false (by omega)]; rfl
  · rw [Int.compare_eq_eq.mpr h, decide_eq_false (by omega)]; rfl
  · rw [Int.compare_eq_gt.mpr h, decide_eq_true h]; rfl
theorem nn_fv {x : UInt64} {a : Int} (hx : Fv x a) (h : 0 ≤ a) : NN x := by
  show (Float64.cmp x 0 == some Ordering.lt) = false
  rw [cmp_lt hx fv_zero', decide_eq_false (by omega)]
end Mine

end FL
section FL2
open PySem PySem.W PySem.Calls PyProof.Rows
open PySem.Builtin.Math (vectorNorm)
set_option linter.unusedVariables false
namespace Mine
open PySem.Float64 (V Right dist infMag pack decode val sgn)
theorem decode_zero0 : decode 0 = .fin false 0 (-1074) := by
  with_unfolding_all rfl
theorem nn_iff_nan {x : UInt64} (h : decode x = .nan) : NN x := by
  show (Float64.cmp x 0 == some Ordering.lt) = false
  unfold Float64.cmp
  rw [h]
  rfl
theorem nn_inf {x : UInt64} (h : decode x = .inf false) : NN x := by
  show (Float64.cmp x 0 == some Ordering.lt) = false
  unfold Float64.cmp
  rw [h, decode_zero0]
  rfl
theorem not_nn_inf {x : UInt64} (h : decode x = .inf true) (hn : NN x) : False := by
  have hn' : (Float64.cmp x 0 == some Ordering.lt) = false := hn
  unfold Float64.cmp at hn'
  rw [h, decode_zero0] at hn'
  cases hn'
theorem nn_fin {x : UInt64} {s : Bool} {m : Nat} {e : Int} (h : decode x = .fin s m e) (hn : NN x) : s = false ∨ m = 0 := by
  have hf : Fv x (val x) := ⟨_, _, _, h, rfl⟩
  have hn' : (Float64.cmp x 0 == some Ordering.lt) = false := hn
  rw [cmp_lt hf fv_zero'] at hn'
  have h0 : ¬ val x < 0 := of_decide_eq_false hn'
  cases s with
  | false => exact .inl rfl
  | true =>
    right
    rw [Float64.val_eq h, sgn_eq] at h0
    rcases Nat.eq_zero_or_pos m with hm | hm
    · exact hm
    · have := Nat.mul_pos hm (Nat.two_pow_pos (e + 1074).toNat)
      simp only [if_true] at h0
      omega
theorem decode_infMag : decode (pack false infMag) = .inf false := by
  have h : (pack false infMag).toNat = 2047 * 2^52 := by decide +kernel
  unfold Float64.decode
  rw [h]
  rfl
theorem decode_nan : decode Float64.nan = .nan := by
  have h : (Float64.nan).toNat = 2047 * 2^52 + 2^51 := by decide +kernel
  unfold Float64.decode
  rw [h]
  rfl
theorem nn_pack {t : Nat} (h : t ≤ infMag) : NN (pack false t) := by
  rcases Nat.lt_or_ge t infMag with h1 | h1
  · exact nn_fv (fv_pack false h1) (by rw [sgn_eq]; simp)
  · have : t = infMag := by omega
    subst this
    exact nn_inf decode_infMag
theorem nn_ofFrac (n d : Nat) : NN (Float64.ofFrac false n d) := by
  unfold Float64.ofFrac
  exact nn_pack (by rw [Float64.roundMag_min]; omega)
theorem ofFrac_zero (b : Bool) (d : Nat) : NN (Float64.ofFrac b 0 d) := by
  unfold Float64.ofFrac
  have : Float64.roundMag 0 d = 0 := by unfold Float64.roundMag; rfl
  rw [this]
  exact nn_fv (fv_zero b) (by omega)
theorem nn_ofBin {s : Bool} {m : Nat} {e : Int} (h : s = false ∨ m = 0) : NN (Float64.ofBin s m e) := by
  unfold Float64.ofBin
  rcases h with rfl | rfl
  · exact nn_ofFrac _ _
  · have : (Float64.shift 0 1 e).1 = 0 := by unfold Float64.shift; split <;> simp
    simp only [this]
    exact ofFrac_zero _ _
theorem abs_cases (z : UInt64) : decode (Float64.abs z) = .nan ∨ decode (Float64.abs z) = .inf false ∨ ∃ m e, decode (Float64.abs z) = .fin false m e := by
  cases h : decode z with
  | nan =>
    left
    have hnan : Float64.isNaN z = true := by unfold Float64.isNaN; rw [h]
    unfold Float64.abs
    rw [if_pos hnan]
    exact decode_nan
  | fin s m e => exact .inr (.inr ⟨m, e, abs_decode h⟩)
  | inf s =>
    right; left
    have hnan : Float64.isNaN z = false := by unfold Float64.isNaN; rw [h]
    have hp : Float64.abs z = pack false (z.toNat % 2 ^ 63) := by
      unfold Float64.abs
      rw [if_neg (by simp [hnan])]
    have he : z.toNat % 2 ^ 63 = infMag := by
      unfold Float64.decode at h
      simp only at h
      split at h
      · rename_i c
        split at h
        · rename_i c2
          have c' : z.toNat / 2 ^ 52 % 2048 = 2047 := by simpa using c
          have c2' : z.toNat % 2 ^ 52 = 0 := by simpa using c2
          unfold Float64.infMag
          omega
        · cases h
      · split at h <;> cases h
    rw [hp, he]
    exact decode_infMag
theorem nn_nan : NN Float64.nan := nn_iff_nan decode_nan
theorem nn_infF : NN (Float64.inf false) := by unfold Float64.inf; exact nn_pack (Nat.le_refl _)
theorem nn_mul {sg z : UInt64} (h : NN sg) : NN (Float64.mul sg (Float64.abs z)) := by
  unfold Float64.mul
  cases hs : decode sg with
  | nan => exact nn_nan
  | inf s =>
    cases s with
    | true => exact (not_nn_inf hs h).elim
    | false =>
      rcases abs_cases z with hz | hz | ⟨m, e, hz⟩
      · rw [hz]; exact nn_nan
      · rw [hz]; exact nn_infF
      · rw [hz]
        show NN (if m == 0 then Float64.nan else Float64.inf (false != false))
        split
        · exact nn_nan
        · exact nn_infF
  | fin s m e =>
    have h0 := nn_fin hs h
    rcases abs_cases z with hz | hz | ⟨k, f, hz⟩
    · rw [hz]; exact nn_nan
    · rw [hz]
      show NN (if m == 0 then Float64.nan else Float64.inf (s != false))
      rcases h0 with rfl | rfl
      · split
        · exact nn_nan
        · exact nn_infF
      · exact nn_nan
    · rw [hz]
      refine nn_ofBin ?_
      rcases h0 with rfl | rfl
      · exact .inl rfl
      · exact .inr (Nat.zero_mul _)
theorem nn_zero (b : Bool) : NN (Float64.zero b) := nn_fv (fv_zero b) (by omega)
theorem nn_div {sg z : UInt64} (h : NN sg) : NN (Float64.div sg (Float64.abs z)) := by
  unfold Float64.div
  cases hs : decode sg with
  | nan => exact nn_nan
  | inf s =>
    cases s with
    | true => exact (not_nn_inf hs h).elim
    | false =>
      rcases abs_cases z with hz | hz | ⟨m, e, hz⟩
      · rw [hz]; exact nn_nan
      · rw [hz]; exact nn_nan
      · rw [hz]; exact nn_infF
  | fin s m e =>
    have h0 := nn_fin hs h
    rcases abs_cases z with hz | hz | ⟨k, f, hz⟩
    · rw [hz]; exact nn_nan
    · rw [hz]; exact nn_zero _
    · rw [hz]
      dsimp only
      split
      · split
        · exact nn_nan
        · rename_i c
          rcases h0 with rfl | rfl
          · exact nn_infF
          · exact absurd rfl c
      · rcases h0 with rfl | rfl
        · exact nn_ofFrac _ _
        · have : (Float64.shift 0 k (e - f)).1 = 0 := by unfold Float64.shift; split <;> simp
          rw [this]
          exact ofFrac_zero _ _
theorem fv_ofInt {i : Int} {q j : Nat} (h : i.natAbs = q * 2 ^ j) (hq : q < 2 ^ 53) (hj : j ≤ 900) : Fv (Float64.ofInt i) (i * 2 ^ 1074) := by
  have hr := Float64.ofInt_right i
  obtain ⟨t, ht, hlt, hV⟩ := right_exact (q := q) (j := j + 1074) hr (by decide) (by rw [h, Nat.one_mul, Nat.pow_add, Nat.mul_assoc]) hq (by omega)
  rw [ht]
  have := fv_pack (decide (i < 0)) hlt
  rw [hV, Nat.pow_add, ← Nat.mul_assoc, ← h] at this
  have e : sgn (decide (i < 0)) (i.natAbs * 2 ^ 1074) = i * 2 ^ 1074 := by
    rw [Float64.sgn_mul]
    have : ((2 : Int) ^ 1074) = ((2 ^ 1074 : Nat) : Int) := by simp
    rw [this]
    congr 1
    rw [sgn_eq]
    by_cases hn : i < 0
    · rw [decide_eq_true hn, if_pos rfl]; omega
    · rw [decide_eq_false hn, if_neg (by decide)]; omega
  rw [e] at this
  exact this
theorem dy_ofInt {i : Int} (h : i.natAbs < 2 ^ 53) : Dy (Float64.ofInt i) i 1074 := fv_ofInt (q := i.natAbs) (j := 0) (by simp) h (by omega)
end Mine

end FL2
section FL3
open PySem PySem.W PySem.Calls PyProof.Rows
open PySem.Builtin.Math
set_option linter.unusedVariables false
set_option exponentiation.threshold 3000
namespace Mine
open PySem.Float64 (V Right dist infMag pack decode val sgn)
theorem natAbs_mul_pow (n : Int) (k : Nat) : (n * 2 ^ k).natAbs = n.natAbs * 2 ^ k := by
  rw [Int.natAbs_mul, Int.natAbs_pow]; rfl
theorem dy_add {x y : UInt64} {a b : Int} {k : Nat} (hx : Dy x a k) (hy : Dy y b k) (h : (a + b).natAbs < 2 ^ 53) (hk : k ≤ 2045) : Dy (Float64.add x y) (a + b) k := by
  have h1 := add_exact (q := (a + b).natAbs) (j := k) hx hy (by rw [← Int.add_mul, natAbs_mul_pow]) h hk
  rw [← Int.add_mul] at h1
  exact h1
theorem dy_sub {x y : UInt64} {a b : Int} {k : Nat} (hx : Dy x a k) (hy : Dy y b k) (h : (a - b).natAbs < 2 ^ 53) (hk : k ≤ 2045) : Dy (Float64.sub x y) (a - b) k := by
  have h1 := sub_exact (q := (a - b).natAbs) (j := k) hx hy (by rw [← Int.sub_mul, natAbs_mul_pow]) h hk
  rw [← Int.sub_mul] at h1
  exact h1
theorem dy_neg {x : UInt64} {a : Int} {k : Nat} (hx : Dy x a k) : Dy (Float64.neg x) (-a) k := by
  have h1 := fv_neg hx
  rw [← Int.neg_mul] at h1
  exact h1
theorem dy_abs {x : UInt64} {a : Int} {k : Nat} (hx : Dy x a k) : Dy (Float64.abs x) (a.natAbs : Int) k := by
  have h1 := fv_abs hx
  rw [natAbs_mul_pow, Int.natCast_mul, Int.natCast_pow] at h1
  exact h1
theorem dy_mul {x y : UInt64} {a b : Int} {j k l : Nat} (hx : Dy x a j) (hy : Dy y b k) (h : (a * b).natAbs < 2 ^ 53) (hjk : j + k = 1074 + l) (hl : l ≤ 2045) : Dy (Float64.mul x y) (a * b) l := by
  have hp : (2 : Nat) ^ j * 2 ^ k = 2 ^ 1074 * 2 ^ l := by rw [← Nat.pow_add, hjk, Nat.pow_add]
  have hpi : (2 : Int) ^ j * 2 ^ k = 2 ^ 1074 * 2 ^ l := by rw [← Int.pow_add, hjk, Int.pow_add]
  obtain ⟨v, hv, e⟩ := mul_exact (q := (a * b).natAbs) (j := l) hx hy (by
    rw [Int.natAbs_mul, natAbs_mul_pow, natAbs_mul_pow, Int.natAbs_mul]
    calc a.natAbs * 2 ^ j * (b.natAbs * 2 ^ k) = a.natAbs * b.natAbs * (2 ^ j * 2 ^ k) := by ac_rfl
      _ = 2 ^ 1074 * (a.natAbs * b.natAbs * 2 ^ l) := by rw [hp]; ac_rfl) h hl
  have e2 : v * 2 ^ 1074 = a * b * 2 ^ l * 2 ^ 1074 := by
    rw [e]
    calc a * 2 ^ j * (b * 2 ^ k) = a * b * (2 ^ j * 2 ^ k) := by ac_rfl
      _ = a * b * 2 ^ l * 2 ^ 1074 := by rw [hpi]; ac_rfl
  have e3 : v = a * b * 2 ^ l := Int.eq_of_mul_eq_mul_right (Int.pow_ne_zero (by decide)) e2
  rw [e3] at hv
  exact hv
theorem dy_div {x y : UInt64} {c b : Int} {j k l : Nat} (hx : Dy x (c * b) j) (hy : Dy y b k) (hb : b ≠ 0) (h : c.natAbs < 2 ^ 53) (hjk : j + 1074 = k + l) (hl : l ≤ 2045) : Dy (Float64.div x y) c l := by
  have hp : (2 : Nat) ^ j * 2 ^ 1074 = 2 ^ k * 2 ^ l := by rw [← Nat.pow_add, hjk, Nat.pow_add]
  have hpi : (2 : Int) ^ j * 2 ^ 1074 = 2 ^ k * 2 ^ l := by rw [← Int.pow_add, hjk, Int.pow_add]
  have hb2 : b * 2 ^ k ≠ 0 := Int.mul_ne_zero hb (Int.pow_ne_zero (by decide))
  obtain ⟨v, hv, e⟩ := div_exact (q := c.natAbs) (j := l) hx hy hb2 (by
    rw [natAbs_mul_pow, natAbs_mul_pow, Int.natAbs_mul]
    calc c.natAbs * b.natAbs * 2 ^ j * 2 ^ 1074 = c.natAbs * b.natAbs * (2 ^ j * 2 ^ 1074) := by ac_rfl
      _ = b.natAbs * 2 ^ k * (c.natAbs * 2 ^ l) := by rw [hp]; ac_rfl) h hl
  have e2 : v * (b * 2 ^ k) = c * 2 ^ l * (b * 2 ^ k) := by
    rw [e]
    calc c * b * 2 ^ j * 2 ^ 1074 = c * b * (2 ^ j * 2 ^ 1074) := by ac_rfl
      _ = c * 2 ^ l * (b * 2 ^ k) := by rw [hpi]; ac_rfl
  have e3 : v = c * 2 ^ l := Int.eq_of_mul_eq_mul_right hb2 e2
  rw [e3] at hv
  exact hv
theorem dy_scale {x : UInt64} {a : Int} {j k l : Nat} (hx : Dy x a k) (h : k = j + l) : Dy x (a * 2 ^ j) l := by
  subst h
  unfold Dy at *
  rw [Int.pow_add, ← Int.mul_assoc] at hx
  exact hx
theorem sgn_add_pow {a : Bool} {m : Nat} {d : Nat} : sgn a (m * 2 ^ d) = sgn a m * 2 ^ d := by
  rw [Float64.sgn_mul, Int.natCast_pow]; rfl
theorem tn_add {a b c d : Int} (ha : 0 ≤ a) (hb : 0 ≤ b) (hc : 0 ≤ c) (hd : 0 ≤ d) (h : a + b = c + d) : a.toNat + b.toNat = c.toNat + d.toNat := by
  rw [← Int.toNat_add ha hb, ← Int.toNat_add hc hd, h]
theorem fma_right {x y z : UInt64} {a b c : Bool} {m k n : Nat} {e f g : Int} (hx : decode x = .fin a m e) (hy : decode y = .fin b k f) (hz : decode z = .fin c n g) :
    (val x * val y + val z * 2 ^ 1074 = 0 → Fv (Float64.fma x y z) 0) ∧
    (val x * val y + val z * 2 ^ 1074 ≠ 0 → Right (Float64.fma x y z) (decide (val x * val y + val z * 2 ^ 1074 < 0)) (val x * val y + val z * 2 ^ 1074).natAbs (2 ^ 1074)) := by
  have he := Float64.decode_ge hx
  have hf := Float64.decode_ge hy
  have hg := Float64.decode_ge hz
  have hfma : Float64.fma x y z = if sgn (a != b) (m * k * 2 ^ (e + f - min (e + f) g).toNat) + sgn c (n * 2 ^ (g - min (e + f) g).toNat) == 0 then Float64.zero (if m * k == 0 && n == 0 then (a != b) && c else false)
      else Float64.ofBin (sgn (a != b) (m * k * 2 ^ (e + f - min (e + f) g).toNat) + sgn c (n * 2 ^ (g - min (e + f) g).toNat) < 0) (sgn (a != b) (m * k * 2 ^ (e + f - min (e + f) g).toNat) + sgn c (n * 2 ^ (g - min (e + f) g).toNat)).natAbs (min (e + f) g) := by
    unfold Float64.fma
    rw [hx, hy, hz]
    rfl
  have hT : val x * val y + val z * 2 ^ 1074 = (sgn (a != b) (m * k * 2 ^ (e + f - min (e + f) g).toNat) + sgn c (n * 2 ^ (g - min (e + f) g).toNat)) * 2 ^ (min (e + f) g + 2148).toNat := by
    rw [Float64.val_eq hx, Float64.val_eq hy, Float64.val_eq hz, mul_val, sgn_add_pow, sgn_add_pow, sgn_add_pow, Int.add_mul, Int.mul_assoc, Int.mul_assoc, Int.mul_assoc, ← Int.pow_add, ← Int.pow_add, ← Int.pow_add]
    have e1 : (g + 1074).toNat + 1074 = (g - min (e + f) g).toNat + (min (e + f) g + 2148).toNat := tn_add (b := 1074) (by omega) (by decide) (by omega) (by omega) (by omega)
    have e2 : (e + 1074).toNat + (f + 1074).toNat = (e + f - min (e + f) g).toNat + (min (e + f) g + 2148).toNat := tn_add (by omega) (by omega) (by omega) (by omega) (by omega)
    rw [← e1, ← e2]
    congr 1
    have : m * 2 ^ (e + 1074).toNat * (k * 2 ^ (f + 1074).toNat) = m * k * 2 ^ ((e + 1074).toNat + (f + 1074).toNat) := by rw [Nat.pow_add]; ac_rfl
    rw [this, sgn_add_pow]
  generalize hS : sgn (a != b) (m * k * 2 ^ (e + f - min (e + f) g).toNat) + sgn c (n * 2 ^ (g - min (e + f) g).toNat) = S at *
  have hpos : (0 : Int) < 2 ^ (min (e + f) g + 2148).toNat := Int.pow_pos (by decide)
  constructor
  · intro h0
    have hs : S = 0 := by
      rw [hT] at h0
      rcases Int.mul_eq_zero.mp h0 with h | h
      · exact h
      · omega
    rw [hfma, hs]
    exact fv_zero _
  · intro h0
    have hs : S ≠ 0 := by
      intro h
      rw [h, Int.zero_mul] at hT
      exact h0 hT
    have hneg : decide (val x * val y + val z * 2 ^ 1074 < 0) = decide (S < 0) := by
      rw [hT]
      apply decide_eq_decide.mpr
      constructor
      · intro h
        by_cases h2 : S < 0
        · exact h2
        · have := Int.mul_nonneg (show 0 ≤ S by omega) (Int.le_of_lt hpos)
          omega
      · intro h
        exact Int.mul_neg_of_neg_of_pos h hpos
    rw [hfma, if_neg (by simpa using hs), hneg, hT, natAbs_mul_pow]
    unfold Float64.ofBin
    refine Float64.ofFrac_right (Float64.shift_pos _ _ _ (by decide)) ?_ (Nat.two_pow_pos _)
    have := Float64.shift_one S.natAbs (min (e + f) g) 2148 (by omega)
    have e1 : (min (e + f) g + ((2148 : Nat) : Int)).toNat = (min (e + f) g + 2148).toNat := by omega
    rw [e1] at this
    rw [Nat.mul_assoc, ← Nat.pow_add]
    exact this
theorem fma_zero {x y z : UInt64} {a b c : Int} (hx : Fv x a) (hy : Fv y b) (hz : Fv z c) (h : a * b + c * 2 ^ 1074 = 0) : Fv (Float64.fma x y z) 0 := by
  obtain ⟨s, m, e, hd, rfl⟩ := hx
  obtain ⟨s', m', e', hd', rfl⟩ := hy
  obtain ⟨s'', m'', e'', hd'', rfl⟩ := hz
  exact (fma_right hd hd' hd'').1 h
theorem fma_err {x y z : UInt64} {a b c : Int} {P : Nat} (hx : Fv x a) (hy : Fv y b) (hz : Fv z c) (hP : 53 ≤ P) (hP2 : P ≤ 2097) (h : (a * b + c * 2 ^ 1074).natAbs ≤ 2 ^ 1074 * 2 ^ P) :
    ∃ v, Fv (Float64.fma x y z) v ∧ 2 * (v * 2 ^ 1074 - (a * b + c * 2 ^ 1074)).natAbs ≤ 2 ^ 1074 * 2 ^ (P - 53) := by
  obtain ⟨s, m, e, hd, rfl⟩ := hx
  obtain ⟨s', m', e', hd', rfl⟩ := hy
  obtain ⟨s'', m'', e'', hd'', rfl⟩ := hz
  obtain ⟨h0, h1⟩ := fma_right hd hd' hd''
  generalize val x * val y + val z * 2 ^ 1074 = T at *
  by_cases hz : T = 0
  · refine ⟨0, h0 hz, ?_⟩
    rw [hz]; simp
  · obtain ⟨t, ht, hlt, hV⟩ := right_err (h1 hz) (Nat.two_pow_pos _) hP hP2 h
    refine ⟨sgn (decide (T < 0)) (V t), ?_, ?_⟩
    · rw [ht]; exact fv_pack _ hlt
    · refine Nat.le_trans (Nat.mul_le_mul_left 2 ?_) hV
      have e1 : ((2 : Int) ^ 1074) = ((2 ^ 1074 : Nat) : Int) := by simp
      rw [e1, ← Float64.sgn_mul, Nat.mul_comm (V t)]
      exact Nat.le_of_eq dist_sgn
end Mine

end FL3
section FL4
open PySem PySem.W PySem.Calls PyProof.Rows
open PySem.Builtin.Math
set_option linter.unusedVariables false
set_option exponentiation.threshold 3000
namespace Mine
open PySem.Float64 (V Right dist infMag pack decode val sgn)
theorem fv_pos {x : UInt64} {v : Int} (h : Fv x v) (h0 : 0 < v) : ∃ m e, decode x = .fin false m e ∧ m ≠ 0 ∧ val x = v := by
  obtain ⟨s, m, e, hd, rfl⟩ := h
  have hv := Float64.val_eq hd
  cases s with
  | true =>
    exfalso
    rw [sgn_eq, if_pos rfl] at hv
    omega
  | false =>
    refine ⟨m, e, hd, ?_, rfl⟩
    rintro rfl
    rw [sgn_eq, if_neg (by decide), Nat.zero_mul] at hv
    omega
theorem sq_le {a b : Nat} (h : a * a ≤ b * b) : a ≤ b := by
  rcases Nat.lt_or_ge b a with h1 | h1
  · have := Nat.mul_self_lt_mul_self h1
    omega
  · exact h1
theorem sqrt_in {x : UInt64} {v : Int} {lo hi : Nat} (hx : Fv x v) (h0 : 0 < v) (h1 : lo * lo ≤ v.natAbs * 2 ^ 1074) (h2 : v.natAbs * 2 ^ 1074 ≤ hi * hi)
    (r1 : ∃ t, t < infMag ∧ V t = lo) (r2 : ∃ t, t < infMag ∧ V t = hi) : ∃ w : Nat, Fv (Float64.sqrt x) w ∧ lo ≤ w ∧ w ≤ hi := by
  obtain ⟨m, e, hd, hm, rfl⟩ := fv_pos hx h0
  obtain ⟨t, ht, hlt, hup, hdn⟩ := Float64.sqrt_right hd hm
  obtain ⟨a, ha, rfl⟩ := r1
  obtain ⟨b, hb, rfl⟩ := r2
  refine ⟨V t, ?_, ?_, ?_⟩
  · rw [ht]
    have := fv_pack false hlt
    rw [sgn_eq, if_neg (by decide)] at this
    exact this
  · rcases Nat.lt_or_ge t a with h | h
    · have h3 := hup a h
      have h4 := Float64.V_lt h
      have h5 : (2 * V a) * (2 * V a) ≤ (V t + V a) * (V t + V a) := by
        refine Nat.le_trans ?_ h3
        have : (2 * V a) * (2 * V a) = 4 * (V a * V a) := by rw [show (4 : Nat) = 2 * 2 by rfl]; ac_rfl
        omega
      have := sq_le h5
      omega
    · rcases Nat.eq_or_lt_of_le h with h | h
      · subst h; exact Nat.le_refl _
      · exact Nat.le_of_lt (Float64.V_lt h)
  · rcases Nat.lt_or_ge b t with h | h
    · have h3 := hdn b h
      have h4 := Float64.V_lt h
      have h5 : (V t + V b) * (V t + V b) ≤ (2 * V b) * (2 * V b) := by
        refine Nat.le_trans h3 ?_
        have : (2 * V b) * (2 * V b) = 4 * (V b * V b) := by rw [show (4 : Nat) = 2 * 2 by rfl]; ac_rfl
        omega
      have := sq_le h5
      omega
    · rcases Nat.eq_or_lt_of_le h with h | h
      · subst h; exact Nat.le_refl _
      · exact Nat.le_of_lt (Float64.V_lt h)
theorem root_ex (n : Nat) : ∃ q : Nat, q * q ≤ n ∧ n < (q + 1) * (q + 1) := by
  induction n with
  | zero => exact ⟨0, by decide, by decide⟩
  | succ n ih =>
    obtain ⟨q, h1, h2⟩ := ih
    by_cases h : n + 1 < (q + 1) * (q + 1)
    · exact ⟨q, by omega, h⟩
    · refine ⟨q + 1, by omega, ?_⟩
      have h3 : (q + 1) * (q + 1) < (q + 1 + 1) * (q + 1 + 1) := Nat.mul_self_lt_mul_self (by omega)
      omega
theorem sqrt_err {x : UInt64} {v : Int} {j : Nat} (hx : Fv x v) (h0 : 0 < v) (hj : j ≤ 2044) (h : v.natAbs * 2 ^ 1074 < 2 ^ (53 + j) * 2 ^ (53 + j)) :
    ∃ w lo : Nat, Fv (Float64.sqrt x) w ∧ lo ≤ w ∧ w ≤ lo + 2 ^ j ∧ lo * lo ≤ v.natAbs * 2 ^ 1074 ∧ v.natAbs * 2 ^ 1074 < (lo + 2 ^ j) * (lo + 2 ^ j) := by
  generalize hT : v.natAbs * 2 ^ 1074 = T at *
  have hz : 0 < 2 ^ j := Nat.two_pow_pos j
  obtain ⟨q, h1, h2⟩ := root_ex (T / (2 ^ j * 2 ^ j))
  have hN : 0 < 2 ^ j * 2 ^ j := Nat.mul_pos hz hz
  have h3 : q * 2 ^ j * (q * 2 ^ j) ≤ T := by
    have := (Nat.le_div_iff_mul_le hN).mp h1
    refine Nat.le_trans (Nat.le_of_eq ?_) this
    ac_rfl
  have h4 : T < (q * 2 ^ j + 2 ^ j) * (q * 2 ^ j + 2 ^ j) := by
    have := (Nat.div_lt_iff_lt_mul hN).mp h2
    refine Nat.lt_of_lt_of_eq this ?_
    have e : q * 2 ^ j + 2 ^ j = (q + 1) * 2 ^ j := by rw [Nat.add_mul, Nat.one_mul]
    rw [e]
    ac_rfl
  have hq : q < 2 ^ 53 := by
    rw [Nat.pow_add] at h
    generalize (2 : Nat) ^ j = z at *
    rcases Nat.lt_or_ge q (2 ^ 53) with h5 | h5
    · exact h5
    · have := Nat.mul_le_mul_right z h5
      have := Nat.mul_le_mul this this
      omega
  obtain ⟨w, hw, hl, hh⟩ := sqrt_in (lo := q * 2 ^ j) (hi := (q + 1) * 2 ^ j) hx h0 (by rw [hT]; exact h3) (by rw [hT, Nat.add_mul, Nat.one_mul]; exact Nat.le_of_lt h4) (repr_V j q hq (by omega)) (repr_V' j (q + 1) (by omega) hj)
  rw [Nat.add_mul, Nat.one_mul] at hh
  exact ⟨w, q * 2 ^ j, hw, hl, hh, h3, h4⟩
theorem dy_sqrt {x : UInt64} {c k l : Nat} (hx : Dy x ((c * c : Nat) : Int) k) (hc : 0 < c) (hq : c < 2 ^ 53) (h : k + 1074 = l + l) (hl : l ≤ 2045) : Dy (Float64.sqrt x) c l := by
  have hz : (0 : Int) < ((c * c : Nat) : Int) * 2 ^ k := Int.mul_pos (by have := Nat.mul_pos hc hc; omega) (Int.pow_pos (by decide))
  have hv : (((c * c : Nat) : Int) * 2 ^ k).natAbs * 2 ^ 1074 = c * 2 ^ l * (c * 2 ^ l) := by
    rw [natAbs_mul_pow, Int.natAbs_natCast, Nat.mul_assoc, ← Nat.pow_add, h, Nat.pow_add]
    ac_rfl
  obtain ⟨w, hw, hl, hh⟩ := sqrt_in (lo := c * 2 ^ l) (hi := c * 2 ^ l) hx hz (by rw [hv]; exact Nat.le_refl _) (by rw [hv]; exact Nat.le_refl _) (repr_V l c hq hl) (repr_V l c hq hl)
  have : w = c * 2 ^ l := by omega
  subst this
  rw [Int.natCast_mul, Int.natCast_pow] at hw
  exact hw
theorem two_pow_between {a b : Nat} {v : Nat} (h1 : 2 ^ a ≤ v) (h2 : v < 2 ^ (b + 1)) : a ≤ b := by
  have := (Nat.pow_lt_pow_iff_right (a := 2) (by decide)).mp (Nat.lt_of_le_of_lt h1 h2)
  omega
theorem frexp_exp {x : UInt64} {n k L : Nat} (hx : Dy x (n : Int) k) (h1 : 2 ^ L ≤ n) (h2 : n < 2 ^ (L + 1)) : (Float64.frexp x).2 = (L + k : Int) - 1073 := by
  have hz : (0 : Int) < (n : Int) * 2 ^ k := Int.mul_pos (by have := Nat.two_pow_pos L; omega) (Int.pow_pos (by decide))
  obtain ⟨m, e, hd, hm, hv⟩ := fv_pos hx hz
  have he := Float64.decode_ge hd
  have h3 : m * 2 ^ (e + 1074).toNat = n * 2 ^ k := by
    have := Float64.val_natAbs hd
    rw [hv, natAbs_mul_pow, Int.natAbs_natCast] at this
    exact this.symm
  have ha : 2 ^ m.log2 ≤ m := Nat.log2_self_le hm
  have hb : m < 2 ^ (m.log2 + 1) := Nat.lt_log2_self
  have hf : (Float64.frexp x).2 = e + m.log2 + 1 := by
    unfold Float64.frexp
    rw [hd]
    simp only
    rw [if_neg (by simpa using hm)]
  have i1 : 2 ^ (m.log2 + (e + 1074).toNat) ≤ n * 2 ^ k := by rw [← h3, Nat.pow_add]; exact Nat.mul_le_mul_right _ ha
  have i2 : n * 2 ^ k < 2 ^ (L + k + 1) := by
    rw [show L + k + 1 = L + 1 + k by omega, Nat.pow_add]
    exact Nat.mul_lt_mul_of_pos_right h2 (Nat.two_pow_pos _)
  have i3 : 2 ^ (L + k) ≤ n * 2 ^ k := by rw [Nat.pow_add]; exact Nat.mul_le_mul_right _ h1
  have i4 : n * 2 ^ k < 2 ^ (m.log2 + (e + 1074).toNat + 1) := by
    rw [← h3, show m.log2 + (e + 1074).toNat + 1 = m.log2 + 1 + (e + 1074).toNat by omega, Nat.pow_add _ (m.log2 + 1)]
    exact Nat.mul_lt_mul_of_pos_right hb (Nat.two_pow_pos _)
  have j1 := two_pow_between i1 i2
  have j2 := two_pow_between i3 i4
  rw [hf]
  omega
theorem decode_one : decode Float64.one = .fin false (2 ^ 52) (-52) := by
  have h : (Float64.one).toNat = 1023 * 2 ^ 52 := by decide +kernel
  unfold Float64.decode
  rw [h]
  rfl
theorem dy_one {j k : Nat} (h : j + k = 1074) : Dy Float64.one (2 ^ j) k := by
  have hv := Float64.val_eq decode_one
  refine ⟨_, _, _, decode_one, ?_⟩
  rw [hv, ← Int.pow_add, h]
  decide +kernel
theorem dy_ldexp_one {E : Int} {K : Nat} (h : E + 1074 = K) (h1 : 52 ≤ K) (h2 : K ≤ 2045) : Dy (Float64.ldexp Float64.one E) 1 K := by
  have hl : Float64.ldexp Float64.one E = Float64.ofBin false (2 ^ 52) (E - 52) := by
    unfold Float64.ldexp
    rw [decode_one]
    simp only
    congr 1
    omega
  have hr := Float64.ofBin_right (neg := false) (M := 2 ^ 52) (g := E - 52) (by omega)
  obtain ⟨t, ht, hlt, hV⟩ := right_exact (q := 1) (j := K) hr (by decide) (by
    rw [Nat.one_mul, Nat.one_mul, ← Nat.pow_add]
    congr 1
    omega) (by decide) h2
  rw [hl, ht]
  have := fv_pack false hlt
  rw [sgn_eq, if_neg (by decide), hV] at this
  unfold Dy
  rw [Int.natCast_mul, Int.natCast_pow] at this
  exact this
end Mine

end FL4
section FL5
open PySem PySem.W PySem.Calls PyProof.Rows
open PySem.Builtin.Math
set_option linter.unusedVariables false
set_option exponentiation.threshold 3000
namespace Mine
open PySem.Float64 (V Right dist infMag pack decode val sgn)
theorem dy_zero {x : UInt64} (h : Fv x 0) (k : Nat) : Dy x 0 k := by
  unfold Dy; rw [Int.zero_mul]; exact h
theorem zero_dy {x : UInt64} {k : Nat} (h : Dy x 0 k) : Fv x 0 := by
  unfold Dy at h; rw [Int.zero_mul] at h; exact h
theorem dl_mul {x y : UInt64} {a b : Int} {j k l : Nat} (hx : Dy x a j) (hy : Dy y b k) (h : (a * b).natAbs < 2 ^ 53) (hjk : j + k = 1074 + l) (hl : l ≤ 2045) : Dy (dlMul x y).1 (a * b) l ∧ Fv (dlMul x y).2 0 := by
  have h1 := dy_mul hx hy h hjk hl
  refine ⟨h1, fma_zero hx hy (dy_neg h1) ?_⟩
  have hpi : (2 : Int) ^ j * 2 ^ k = 2 ^ 1074 * 2 ^ l := by rw [← Int.pow_add, hjk, Int.pow_add]
  have : a * 2 ^ j * (b * 2 ^ k) = a * b * 2 ^ l * 2 ^ 1074 := by
    calc a * 2 ^ j * (b * 2 ^ k) = a * b * (2 ^ j * 2 ^ k) := by ac_rfl
      _ = _ := by rw [hpi]; ac_rfl
  rw [this, Int.neg_mul, Int.neg_mul]
  omega
def stepN (st : UInt64 × UInt64 × UInt64) (pr : UInt64 × UInt64) : UInt64 × UInt64 × UInt64 :=
  ((dlFastSum st.1 pr.1).1, Float64.add st.2.1 pr.2, Float64.add st.2.2 (dlFastSum st.1 pr.1).2)
def tailN (st : UInt64 × UInt64 × UInt64) : UInt64 := Float64.add (Float64.sub st.1 Float64.one) (Float64.add st.2.1 st.2.2)
def endN (st : UInt64 × UInt64 × UInt64) (h : UInt64) : UInt64 :=
  Float64.add h (Float64.div (tailN (stepN st (dlMul (Float64.neg h) h))) (Float64.mul (Float64.ofInt 2) h))
def headN (x y : UInt64) : UInt64 × UInt64 × UInt64 := stepN (stepN (Float64.one, Float64.zero false, Float64.zero false) (dlMul x x)) (dlMul y y)
theorem scaled2 (x y big : UInt64) : scaledNorm [x, y] big =
    (let s := Float64.ldexp Float64.one (-(Float64.frexp big).2)
     let st := headN (Float64.mul x s) (Float64.mul y s)
     Float64.div (endN st (Float64.sqrt (tailN st))) s) := rfl
end Mine

end FL5
section FL6
open PySem PySem.W PySem.Calls PyProof.Rows
open PySem.Builtin.Math
set_option linter.unusedVariables false
set_option exponentiation.threshold 3000
namespace Mine
open PySem.Float64 (V Right dist infMag pack decode val sgn)
structure UG (G O : Nat) : Prop where
  g : G = 2 ^ 1024
  o : O = 2 ^ 1074
section
variable {G O : Nat} {x y z : UInt64} {a b c : Int}
theorem big_eq (hG : G = 2 ^ 1024) : 2 ^ 54 * G = 2 ^ 1078 ∧ 2 ^ (1078 - 53) = 2 * G := by
  subst hG
  constructor
  · rw [← Nat.pow_add]
  · rw [show 1078 - 53 = 1024 + 1 by rfl, Nat.pow_succ, Nat.mul_comm]
theorem g_add (U : UG G O) (hx : Fv x a) (hy : Fv y b) (h : (a + b).natAbs ≤ 2 ^ 54 * G) : ∃ v, Fv (Float64.add x y) v ∧ -(G : Int) ≤ v - (a + b) ∧ v - (a + b) ≤ (G : Int) := by
  obtain ⟨hG, hO⟩ := U
  obtain ⟨e1, e2⟩ := big_eq hG
  obtain ⟨v, hv, hd⟩ := add_err (P := 1078) hx hy (by omega) (by omega) (by rw [← e1]; exact h)
  rw [e2] at hd
  exact ⟨v, hv, by omega, by omega⟩
theorem g_sub (U : UG G O) (hx : Fv x a) (hy : Fv y b) (h : (a - b).natAbs ≤ 2 ^ 54 * G) : ∃ v, Fv (Float64.sub x y) v ∧ -(G : Int) ≤ v - (a - b) ∧ v - (a - b) ≤ (G : Int) := by
  obtain ⟨hG, hO⟩ := U
  obtain ⟨e1, e2⟩ := big_eq hG
  obtain ⟨v, hv, hd⟩ := sub_err (P := 1078) hx hy (by omega) (by omega) (by rw [← e1]; exact h)
  rw [e2] at hd
  exact ⟨v, hv, by omega, by omega⟩
theorem g_mul (U : UG G O) (hx : Fv x a) (hy : Fv y b) (h : (a * b).natAbs ≤ O * (2 ^ 54 * G)) : ∃ v, Fv (Float64.mul x y) v ∧ (v * O - a * b).natAbs ≤ O * G := by
  obtain ⟨hG, hO⟩ := U
  obtain ⟨e1, e2⟩ := big_eq hG
  obtain ⟨v, hv, hd⟩ := mul_err (P := 1078) hx hy (by omega) (by omega) (by rw [← e1, ← hO]; exact h)
  rw [e2, ← hO, Nat.mul_left_comm] at hd
  have : ((2 : Int) ^ 1074) = ((2 ^ 1074 : Nat) : Int) := by simp
  rw [this, ← hO] at hd
  exact ⟨v, hv, by omega⟩
theorem g_fma (U : UG G O) (hx : Fv x a) (hy : Fv y b) (hz : Fv z c) (h : (a * b + c * O).natAbs ≤ O * (2 ^ 54 * G)) : ∃ v, Fv (Float64.fma x y z) v ∧ (v * O - (a * b + c * O)).natAbs ≤ O * G := by
  obtain ⟨hG, hO⟩ := U
  obtain ⟨e1, e2⟩ := big_eq hG
  have : ((2 : Int) ^ 1074) = ((2 ^ 1074 : Nat) : Int) := by simp
  obtain ⟨v, hv, hd⟩ := fma_err (P := 1078) hx hy hz (by omega) (by omega) (by rw [← e1, this, ← hO]; exact h)
  rw [e2, this, ← hO, Nat.mul_left_comm] at hd
  exact ⟨v, hv, by omega⟩
theorem g_div (U : UG G O) (hx : Fv x a) (hy : Fv y b) (hb : b ≠ 0) (h : a.natAbs * O ≤ b.natAbs * (2 ^ 54 * G)) : ∃ v, Fv (Float64.div x y) v ∧ (v * b - a * O).natAbs ≤ b.natAbs * G := by
  obtain ⟨hG, hO⟩ := U
  obtain ⟨e1, e2⟩ := big_eq hG
  have : ((2 : Int) ^ 1074) = ((2 ^ 1074 : Nat) : Int) := by simp
  obtain ⟨v, hv, hd⟩ := div_err (P := 1078) hx hy hb (by omega) (by omega) (by rw [← e1, ← hO]; exact h)
  rw [e2, this, ← hO, Nat.mul_left_comm] at hd
  exact ⟨v, hv, by omega⟩
end
theorem sq_mul_le {a b : Nat} (h : a ≤ b) : a * a ≤ b * b := Nat.mul_le_mul h h
theorem abs_le_of_mul {t : Int} {O K : Nat} (hO : 0 < O) (h : (t * O).natAbs ≤ K * O) : t.natAbs ≤ K := by
  rw [Int.natAbs_mul, Int.natAbs_natCast] at h
  exact Nat.le_of_mul_le_mul_right h hO
end Mine

end FL6
section FL7
open PySem PySem.W PySem.Calls PyProof.Rows
open PySem.Builtin.Math
set_option linter.unusedVariables false
set_option exponentiation.threshold 3000
namespace Mine
open PySem.Float64 (V Right dist infMag pack decode val sgn)
theorem ug : UG (2 ^ 1024) (2 ^ 1074) := ⟨rfl, rfl⟩
end Mine

end FL7
section FL8
open PySem PySem.W PySem.Calls PyProof.Rows
open PySem.Builtin.Math
set_option linter.unusedVariables false
set_option exponentiation.threshold 3000
namespace Mine
open PySem.Float64 (V Right dist infMag pack decode val sgn)
theorem gt_fv {x y : UInt64} {a b : Int} (hx : Fv x a) (hy : Fv y b) : Float64.gt x y = decide (b < a) := cmp_gt hx hy
theorem pow_pos_int (k : Nat) : (0 : Int) < 2 ^ k := Int.pow_pos (by decide)
theorem dy_lt {a b : Int} {k : Nat} : a * 2 ^ k < b * 2 ^ k ↔ a < b := Int.mul_lt_mul_right (pow_pos_int k)
theorem dy_inj {a b : Int} {k : Nat} : a * 2 ^ k = b * 2 ^ k ↔ a = b := ⟨fun h => Int.eq_of_mul_eq_mul_right (Int.ne_of_gt (pow_pos_int k)) h, fun h => by rw [h]⟩
theorem max_two {A B : UInt64} {n1 n2 k : Nat} (hA : Dy A (n1 : Int) k) (hB : Dy B (n2 : Int) k) : ∃ M : Nat, Dy (maxMagnitude [A, B]) (M : Int) k ∧ n1 ≤ M ∧ n2 ≤ M ∧ (M = n1 ∨ M = n2) := by
  have hm : maxMagnitude [A, B] = if Float64.gt B (if Float64.gt A (Float64.zero false) then A else Float64.zero false) then B else (if Float64.gt A (Float64.zero false) then A else Float64.zero false) := rfl
  have h0 : Dy (Float64.zero false) ((0 : Nat) : Int) k := dy_zero (fv_zero false) k
  have h1 : Dy (if Float64.gt A (Float64.zero false) then A else Float64.zero false) (n1 : Int) k := by
    rw [gt_fv hA h0]
    by_cases h : n1 = 0
    · subst h
      split
      · exact hA
      · exact h0
    · rw [decide_eq_true (dy_lt.mpr (by omega)), if_pos rfl]
      exact hA
  rw [hm]
  generalize (if Float64.gt A (Float64.zero false) then A else Float64.zero false) = m1 at *
  rw [gt_fv hB h1]
  by_cases h : n1 < n2
  · rw [decide_eq_true (dy_lt.mpr (by omega)), if_pos rfl]
    exact ⟨n2, hB, by omega, by omega, .inr rfl⟩
  · rw [decide_eq_false (fun h' => h (by have := dy_lt.mp h'; omega)), if_neg (by decide)]
    exact ⟨n1, h1, by omega, by omega, .inl rfl⟩
theorem fv_flags {x : UInt64} {v : Int} (h : Fv x v) : Float64.isInf x = false ∧ Float64.isNaN x = false ∧ Float64.isZero x = decide (v = 0) := by
  obtain ⟨s, m, e, hd, rfl⟩ := h
  refine ⟨by unfold Float64.isInf; rw [hd], by unfold Float64.isNaN; rw [hd], ?_⟩
  unfold Float64.isZero
  rw [hd, Float64.val_eq hd]
  cases m with
  | zero => simp [sgn_eq]
  | succ m =>
    have hp : 0 < (m + 1) * 2 ^ (e + 1074).toNat := Nat.mul_pos (by omega) (Nat.two_pow_pos _)
    generalize (m + 1) * 2 ^ (e + 1074).toNat = z at *
    symm
    apply decide_eq_false
    rw [sgn_eq]
    split <;> omega
theorem log_ex {M : Nat} (h : 0 < M) : ∃ L, 2 ^ L ≤ M ∧ M < 2 ^ (L + 1) := ⟨M.log2, Nat.log2_self_le (by omega), Nat.lt_log2_self⟩
theorem vec_two {A B : UInt64} {n1 n2 k : Nat} (hA : Dy A (n1 : Int) k) (hB : Dy B (n2 : Int) k) (hk : 102 ≤ k) :
    ∃ (big : UInt64) (M : Nat), Dy big (M : Int) k ∧ n1 ≤ M ∧ n2 ≤ M ∧ (M = n1 ∨ M = n2) ∧ vectorNorm [A, B] = if M = 0 then big else scaledNorm [A, B] big := by
  obtain ⟨M, hM, m1, m2, m3⟩ := max_two hA hB
  refine ⟨_, M, hM, m1, m2, m3, ?_⟩
  obtain ⟨f1, f2, f3⟩ := fv_flags hM
  obtain ⟨_, fA, _⟩ := fv_flags hA
  obtain ⟨_, fB, _⟩ := fv_flags hB
  unfold vectorNorm
  simp only [f1, f3, List.any_cons, List.any_nil, fA, fB, List.length_cons, List.length_nil]
  by_cases h : M = 0
  · subst h
    simp
  · have hz : decide ((M : Int) * 2 ^ k = 0) = false := by
      apply decide_eq_false
      have := Int.mul_pos (show (0 : Int) < M by omega) (pow_pos_int k)
      omega
    obtain ⟨L, hL1, hL2⟩ := log_ex (show 0 < M by omega)
    rw [hz, frexp_exp hM hL1 hL2, if_neg h]
    have hE : ¬ ((L + k : Int) - 1073 < -1023) := by omega
    simp [hE]
end Mine

end FL8
section FLr
open PySem PySem.W PySem.Calls PyProof.Rows
open PySem.Builtin.Math (vectorNorm)
set_option linter.unusedVariables false
set_option exponentiation.threshold 3000
namespace Mine
open PySem.Float64 (V Right dist infMag pack decode val sgn)
theorem sgn_int (v : Int) : sgn (decide (v < 0)) v.natAbs = v := by
  rw [sgn_eq]
  by_cases hn : v < 0
  · rw [decide_eq_true hn, if_pos rfl]; omega
  · rw [decide_eq_false hn, if_neg (by decide)]; omega
theorem dy_frac {v : Int} {d j k : Nat} {neg : Bool} (hn : neg = decide (v < 0)) (hd : d = 2 ^ j) (hjk : k + j = 1074) (hv : v.natAbs < 2 ^ 53) : Dy (Float64.ofFrac neg v.natAbs d) v k := by
  subst hn hd
  have hr := Float64.ofFrac_right (neg := decide (v < 0)) (n := v.natAbs) (d := 2 ^ j) (W := v.natAbs * 2 ^ k) (D := 1) (Nat.two_pow_pos _) (by
    rw [Nat.mul_one, Nat.mul_assoc, ← Nat.pow_add, hjk]) (by decide)
  obtain ⟨t, ht, hlt, hV⟩ := right_exact (q := v.natAbs) (j := k) hr (by decide) (by rw [Nat.one_mul]) hv (by omega)
  rw [ht]
  have := fv_pack (decide (v < 0)) hlt
  rw [hV, sgn_add_pow, sgn_int] at this
  exact this
abbrev m8 (m : Int) : UInt64 := Float64.ofFrac (decide (m < 0) != decide ((8 : Int) < 0)) m.natAbs (Int.natAbs 8)
abbrev s600 (s : Int) : UInt64 := Float64.ofFrac (decide (s < 0) != decide ((2 : Int) ^ Int.toNat 600 < 0)) s.natAbs ((2 : Int) ^ Int.toNat 600).natAbs
theorem dy_m8 {m : Int} (h : -1048576 < m ∧ m < 1048576) : Dy (m8 m) m 1071 :=
  dy_frac (j := 3) (by rw [show decide ((8 : Int) < 0) = false by decide, Bool.bne_false]) (by decide) (by decide) (by omega)
theorem nz_abs {k : Int} (h : k.natAbs < 2 ^ 63) (h0 : k ≠ 0) : ¬ Float64.isZero (Float64.abs (Float64.ofInt k)) = true := by
  obtain ⟨t, ht, hle, hov, hn⟩ := Float64.ofInt_right k
  have hW : k.natAbs * 2 ^ 1074 ≤ 1 * (2 ^ 52 * 2 ^ 1085) := by
    rw [Nat.one_mul, ← Nat.pow_add, show 52 + 1085 = 63 + 1074 by rfl, Nat.pow_add]
    exact Nat.mul_le_mul_right _ (by omega)
  have hlt : t < infMag := Nat.lt_of_le_of_ne hle fun e => not_over (q := 2 ^ 52) (j := 1085) (by decide) hW (by decide) (by decide) (hov.mp e)
  obtain ⟨t0, _, hV0⟩ := repr_V 1074 1 (by decide) (by decide)
  have h1 := (hn hlt t0).1
  rw [hV0, Nat.one_mul, Nat.one_mul, Nat.one_mul] at h1
  have h2 : 2 ^ 1074 ≤ k.natAbs * 2 ^ 1074 := Nat.le_mul_of_pos_left _ (by omega)
  have h3 : 0 < (2 : Nat) ^ 1074 := Nat.two_pow_pos _
  have hVt : V t ≠ 0 := by
    intro e
    rw [e] at h1
    clear hW hov hn hV0 hle hlt
    generalize k.natAbs * 2 ^ 1074 = W at h1 h2
    generalize (2 : Nat) ^ 1074 = O at h1 h2 h3
    unfold Float64.dist at h1
    omega
  have hF := fv_abs (fv_pack (decide (k < 0)) hlt)
  rw [← ht] at hF
  rw [(fv_flags hF).2.2]
  intro h
  have := of_decide_eq_true h
  rw [Float64.sgn_natAbs] at this
  omega
theorem ab_le {a b : Int} {A B : Nat} (ha : a.natAbs ≤ A) (hb : b.natAbs ≤ B) : (a * b).natAbs ≤ A * B := by
  rw [Int.natAbs_mul]; exact Nat.mul_le_mul ha hb
theorem dy_wi {S : UInt64} {s w : Int} {k A B : Nat} (h : Dy S s k) (ha : s.natAbs ≤ A) (hb : w.natAbs ≤ B) (hAB : A * B < 2 ^ 53) (hB : B < 2 ^ 53) (hk : k ≤ 2000) : Dy (Float64.mul S (Float64.ofInt w)) (s * w) k :=
  dy_mul h (dy_ofInt (by omega)) (Nat.lt_of_le_of_lt (ab_le ha hb) hAB) (by omega) (by omega)
theorem dy_wa {S : UInt64} {s w : Int} {k A B : Nat} (h : Dy S s k) (ha : s.natAbs ≤ A) (hb : w.natAbs ≤ B) (hAB : A * B < 2 ^ 53) (hB : B < 2 ^ 53) (hk : k ≤ 2000) : Dy (Float64.mul S (Float64.abs (Float64.ofInt w))) (s * (w.natAbs : Int)) k :=
  dy_mul h (dy_abs (dy_ofInt (by omega))) (Nat.lt_of_le_of_lt (ab_le ha (by omega)) hAB) (by omega) (by omega)
end Mine

end FLr
section FL9
open PySem PySem.W PySem.Calls PyProof.Rows
open PySem.Builtin.Math
set_option linter.unusedVariables false
set_option exponentiation.threshold 3000
namespace Mine
open PySem.Float64 (V Right dist infMag pack decode val sgn)
section
variable {G O : Nat} {x y z : UInt64}
theorem one_fv (U : UG G O) : Fv Float64.one (O : Int) := by
  have := dy_one (j := 0) (k := 1074) (by omega)
  unfold Dy at this
  rw [U.o, Int.natCast_pow]
  simpa using this
theorem og_pos (U : UG G O) : 0 < G ∧ O = 2 ^ 50 * G := ⟨by rw [U.g]; exact Nat.two_pow_pos _, by rw [U.o, U.g, ← Nat.pow_add]⟩
theorem dl_near {a : Int} (U : UG G O) (hx : Fv x a) (ha : a.natAbs ≤ 2 * O + G) (y : UInt64) (hy : Fv y a ∨ Fv y (-a)) :
    ∃ (z r : Int) (σ : Int), (σ = 1 ∨ σ = -1) ∧ (Fv y a → σ = 1) ∧ (Fv y (-a) → a ≠ 0 → σ = -1) ∧ Fv (dlMul y x).1 z ∧ Fv (dlMul y x).2 r ∧ -((O * G : Nat) : Int) ≤ z * O - σ * ((a.natAbs * a.natAbs : Nat) : Int) ∧ z * O - σ * ((a.natAbs * a.natAbs : Nat) : Int) ≤ ((O * G : Nat) : Int) ∧ -(2 * (G : Int)) ≤ r ∧ r ≤ 2 * (G : Int) := by
  obtain ⟨hG0, hOG⟩ := og_pos U
  have hO0 : 0 < O := by omega
  have e54 : O * (2 ^ 54 * G) = 2 ^ 54 * (O * G) := by ac_rfl
  have hsq := sq_mul_le ha
  have eOO : (2 * O + G) * (2 * O + G) ≤ 2 ^ 54 * (O * G) := by
    have h1 : (2 * O + G) * (2 * O + G) ≤ (3 * O) * (3 * O) := sq_mul_le (by omega)
    have h2 : 3 * O * (3 * O) = 9 * (O * O) := by rw [show (9 : Nat) = 3 * 3 by rfl]; ac_rfl
    have h3 : O * O = 2 ^ 50 * (O * G) := by conv => lhs; rhs; rw [hOG]
                                             ac_rfl
    omega
  have key : ∀ σ : Int, (σ = 1 ∨ σ = -1) → Fv y (σ * a) → ∃ (z r : Int), Fv (dlMul y x).1 z ∧ Fv (dlMul y x).2 r ∧ -((O * G : Nat) : Int) ≤ z * O - σ * ((a.natAbs * a.natAbs : Nat) : Int) ∧ z * O - σ * ((a.natAbs * a.natAbs : Nat) : Int) ≤ ((O * G : Nat) : Int) ∧ -(2 * (G : Int)) ≤ r ∧ r ≤ 2 * (G : Int) := by
    intro σ hσ hy
    have hs : σ * a * a = σ * ((a.natAbs * a.natAbs : Nat) : Int) := by rw [Int.mul_assoc, Int.natAbs_mul_self]
    generalize hm : a.natAbs * a.natAbs = m at *
    obtain ⟨z, hz, dz⟩ := g_mul U hy hx (by rw [hs, e54]; rcases hσ with rfl | rfl <;> omega)
    rw [hs] at dz
    obtain ⟨r, hr, dr⟩ := g_fma U hy hx (fv_neg hz) (by
      rw [hs, e54, Int.neg_mul]
      generalize z * (O : Int) = zO at *
      generalize σ * (m : Int) = sm at *
      omega)
    rw [hs, Int.neg_mul] at dr
    have br : r.natAbs ≤ 2 * G := by
      refine abs_le_of_mul hO0 ?_
      rw [show 2 * G * O = 2 * (O * G) by ac_rfl]
      generalize z * (O : Int) = zO at *
      generalize r * (O : Int) = rO at *
      generalize σ * (m : Int) = sm at *
      generalize O * G = OG at *
      omega
    exact ⟨z, r, hz, hr, by omega, by omega, by omega, by omega⟩
  rcases hy with hy | hy
  · obtain ⟨z, r, h⟩ := key 1 (.inl rfl) (by rw [Int.one_mul]; exact hy)
    refine ⟨z, r, 1, .inl rfl, fun _ => rfl, fun h2 h0 => ?_, h⟩
    have := fv_uniq hy h2
    omega
  · obtain ⟨z, r, h⟩ := key (-1) (.inr rfl) (by rw [Int.neg_one_mul]; exact hy)
    by_cases h0 : a = 0
    · subst h0
      refine ⟨z, r, 1, .inl rfl, fun _ => rfl, fun _ h => absurd rfl h, ?_⟩
      simpa using h
    · refine ⟨z, r, -1, .inr rfl, fun h2 => ?_, fun _ _ => rfl, h⟩
      have := fv_uniq hy h2
      omega
theorem step_near {c p r f1 f2 : UInt64} {C z ρ F1 F2 : Int} (U : UG G O) (hc : Fv c C) (hp : Fv p z) (hr : Fv r ρ) (h1 : Fv f1 F1) (h2 : Fv f2 F2) (bC : -(5 * (O : Int)) ≤ C) (bC' : C ≤ 5 * (O : Int)) (bz : -(5 * (O : Int)) ≤ z) (bz' : z ≤ 5 * (O : Int))
    (br : -(2 * (G : Int)) ≤ ρ) (br' : ρ ≤ 2 * (G : Int)) (b1 : -(90 * (G : Int)) ≤ F1) (b1' : F1 ≤ 90 * (G : Int)) (b2 : -(90 * (G : Int)) ≤ F2) (b2' : F2 ≤ 90 * (G : Int)) :
    ∃ C' F1' F2' : Int, Fv (stepN (c, f1, f2) (p, r)).1 C' ∧ Fv (stepN (c, f1, f2) (p, r)).2.1 F1' ∧ Fv (stepN (c, f1, f2) (p, r)).2.2 F2' ∧ -(G : Int) ≤ C' - (C + z) ∧ C' - (C + z) ≤ (G : Int) ∧
      -(3 * (G : Int)) ≤ F1' - F1 ∧ F1' - F1 ≤ 3 * (G : Int) ∧ -(4 * (G : Int)) ≤ F2' - F2 ∧ F2' - F2 ≤ 4 * (G : Int) := by
  obtain ⟨hG0, hOG⟩ := og_pos U
  obtain ⟨c1, hc1, d1, d1'⟩ := g_add U hc hp (by omega)
  obtain ⟨c2, hc2, d2, d2'⟩ := g_sub U hc hc1 (by omega)
  obtain ⟨c3, hc3, d3, d3'⟩ := g_add U hc2 hp (by omega)
  obtain ⟨g1, hg1, d4, d4'⟩ := g_add U h1 hr (by omega)
  obtain ⟨g2, hg2, d5, d5'⟩ := g_add U h2 hc3 (by omega)
  exact ⟨c1, g1, g2, hc1, hg1, hg2, d1, d1', by omega, by omega, by omega, by omega⟩
theorem tail_near {st : UInt64 × UInt64 × UInt64} {C F1 F2 : Int} (U : UG G O) (hc : Fv st.1 C) (h1 : Fv st.2.1 F1) (h2 : Fv st.2.2 F2) (bC : -(5 * (O : Int)) ≤ C) (bC' : C ≤ 5 * (O : Int))
    (b1 : -(90 * (G : Int)) ≤ F1) (b1' : F1 ≤ 90 * (G : Int)) (b2 : -(90 * (G : Int)) ≤ F2) (b2' : F2 ≤ 90 * (G : Int)) :
    ∃ S : Int, Fv (tailN st) S ∧ -(3 * (G : Int)) ≤ S - (C - O + F1 + F2) ∧ S - (C - O + F1 + F2) ≤ 3 * (G : Int) := by
  obtain ⟨hG0, hOG⟩ := og_pos U
  obtain ⟨x1, hx1, d6, d6'⟩ := g_sub U hc (one_fv U) (by omega)
  obtain ⟨x2, hx2, d7, d7'⟩ := g_add U h1 h2 (by omega)
  obtain ⟨X, hX, d8, d8'⟩ := g_add U hx1 hx2 (by omega)
  exact ⟨X, hX, by omega, by omega⟩
theorem head_near {a b : Nat} (U : UG G O) (hx : Fv x (a : Int)) (hy : Fv y (b : Int)) (ha : a ≤ O) (hb : b ≤ O) :
    ∃ C F1 F2 S : Int, Fv (headN x y).1 C ∧ Fv (headN x y).2.1 F1 ∧ Fv (headN x y).2.2 F2 ∧ Fv (tailN (headN x y)) S ∧ -(19 * (G : Int)) ≤ C - O - S ∧ C - O - S ≤ 19 * (G : Int) ∧
      -(6 * (G : Int)) ≤ F1 ∧ F1 ≤ 6 * (G : Int) ∧ -(8 * (G : Int)) ≤ F2 ∧ F2 ≤ 8 * (G : Int) ∧ -(21 * ((O * G : Nat) : Int)) ≤ S * O - ((a * a + b * b : Nat) : Int) ∧ S * O - ((a * a + b * b : Nat) : Int) ≤ 21 * ((O * G : Nat) : Int) := by
  obtain ⟨hG0, hOG⟩ := og_pos U
  have hO0 : 0 < O := by omega
  have bnd : ∀ {a : Nat} {z : Int}, a ≤ O → -((O * G : Nat) : Int) ≤ z * O - 1 * (((a : Int).natAbs * (a : Int).natAbs : Nat) : Int) → z * O - 1 * (((a : Int).natAbs * (a : Int).natAbs : Nat) : Int) ≤ ((O * G : Nat) : Int) → -(G : Int) ≤ z ∧ z ≤ O + G := by
    intro a z ha h1 h2
    rw [Int.natAbs_natCast] at h1 h2
    have h3 := sq_mul_le ha
    have e1 : ((O * G : Nat) : Int) = (G : Int) * O := by rw [Int.natCast_mul, Int.mul_comm]
    have e2 : ((O * O : Nat) : Int) = (O : Int) * O := Int.natCast_mul _ _
    have hOp : (0 : Int) < O := by omega
    constructor
    · refine Int.le_of_mul_le_mul_right (?_ : -(G : Int) * O ≤ z * O) hOp
      rw [Int.neg_mul, ← e1]
      generalize z * (O : Int) = zO at *
      omega
    · refine Int.le_of_mul_le_mul_right (?_ : z * O ≤ (O + G : Int) * O) hOp
      rw [Int.add_mul, ← e1, ← e2]
      generalize z * (O : Int) = zO at *
      omega
  obtain ⟨z1, r1, s1, _, k1, _, m1, m2, m3, m4, m5, m6⟩ := dl_near U hx (by omega) x (.inl hx)
  obtain ⟨z2, r2, s2, _, k2, _, n1, n2, n3, n4, n5, n6⟩ := dl_near U hy (by omega) y (.inl hy)
  rw [k1 hx] at m3 m4
  rw [k2 hy] at n3 n4
  obtain ⟨t1, t2⟩ := bnd ha m3 m4
  obtain ⟨t3, t4⟩ := bnd hb n3 n4
  obtain ⟨C1, P1, Q1, u1, u2, u3, v1, v2, v3, v4, v5, v6⟩ := step_near U (one_fv U) m1 m2 (fv_zero false) (fv_zero false) (by omega) (by omega) (by omega) (by omega) m5 m6 (by omega) (by omega) (by omega) (by omega)
  obtain ⟨C2, P2, Q2, u1', u2', u3', v1', v2', v3', v4', v5', v6'⟩ := step_near U u1 n1 n2 u2 u3 (by omega) (by omega) (by omega) (by omega) n5 n6 (by omega) (by omega) (by omega) (by omega)
  obtain ⟨S, hS, w1, w2⟩ := tail_near U (st := headN x y) u1' u2' u3' (by omega) (by omega) (by omega) (by omega) (by omega) (by omega)
  refine ⟨C2, P2, Q2, S, u1', u2', u3', hS, by omega, by omega, by omega, by omega, by omega, by omega, ?_⟩
  have hd : -(19 * (G : Int)) ≤ S - (z1 + z2) ∧ S - (z1 + z2) ≤ 19 * (G : Int) := ⟨by omega, by omega⟩
  have e1 : ((O * G : Nat) : Int) = (G : Int) * O := by rw [Int.natCast_mul, Int.mul_comm]
  have hOp : (0 : Int) ≤ O := by omega
  have l1 := Int.mul_le_mul_of_nonneg_right hd.1 hOp
  have l2 := Int.mul_le_mul_of_nonneg_right hd.2 hOp
  rw [Int.neg_mul, Int.mul_assoc, ← e1, Int.sub_mul, Int.add_mul] at l1
  rw [Int.mul_assoc, ← e1, Int.sub_mul, Int.add_mul] at l2
  rw [Int.natAbs_natCast] at m3 m4 n3 n4
  generalize S * (O : Int) = SO at *
  generalize z1 * (O : Int) = zO1 at *
  generalize z2 * (O : Int) = zO2 at *
  generalize O * G = OG at *
  generalize a * a = aa at *
  generalize b * b = bb at *
  constructor <;> omega
end
end Mine

end FL9
section FL10
open PySem PySem.W PySem.Calls PyProof.Rows
open PySem.Builtin.Math
set_option linter.unusedVariables false
set_option exponentiation.threshold 3000
namespace Mine
open PySem.Float64 (V Right dist infMag pack decode val sgn)
section
variable {G O : Nat} {x y z : UInt64}
theorem root_gen {G O v lo w : Nat} (hG : 0 < G) (hOG : O = 2 ^ 50 * G) (h1 : O ≤ 5 * v) (h2 : v ≤ 3 * O) (l1 : lo ≤ w) (l2 : w ≤ lo + G) (s1 : lo * lo ≤ v * O) (s2 : v * O < (lo + G) * (lo + G)) :
    w ≤ 2 * O + G ∧ O ≤ 3 * w + 3 * G ∧ w * w ≤ v * O + 5 * (O * G) ∧ v * O ≤ w * w + 5 * (O * G) := by
  have i1 : lo ≤ 2 * O := by
    refine sq_le (Nat.le_trans s1 ?_)
    have := Nat.mul_le_mul_right O h2
    have e : 2 * O * (2 * O) = 4 * (O * O) := by rw [show (4 : Nat) = 2 * 2 by rfl]; ac_rfl
    have e2 : 3 * O * O = 3 * (O * O) := by ac_rfl
    omega
  have i2 : O ≤ 3 * (lo + G) := by
    refine sq_le ?_
    have := Nat.mul_le_mul_right O h1
    have e : 3 * (lo + G) * (3 * (lo + G)) = 9 * ((lo + G) * (lo + G)) := by rw [show (9 : Nat) = 3 * 3 by rfl]; ac_rfl
    have e2 : 5 * v * O = 5 * (v * O) := by ac_rfl
    omega
  have e1 : (lo + G) * (lo + G) = lo * lo + 2 * (lo * G) + G * G := by
    rw [Nat.add_mul, Nat.mul_add, Nat.mul_add, Nat.mul_comm G lo]; omega
  have j1 := Nat.mul_le_mul_right G i1
  have e3 : 2 * O * G = 2 * (O * G) := by ac_rfl
  have j2 : G * G ≤ O * G := Nat.mul_le_mul_right G (by omega)
  have k1 := sq_mul_le l1
  have k2 := sq_mul_le l2
  refine ⟨by omega, by omega, by omega, by omega⟩
theorem sq_close2 {a b G K : Nat} (h : a ≤ b + 102 * G) (hb : b ≤ 3 * K) (hG : 102 * G ≤ K) : a * a ≤ b * b + 714 * (K * G) := by
  have h1 := sq_mul_le h
  have e1 : (b + 102 * G) * (b + 102 * G) = b * b + 204 * (b * G) + 102 * (102 * G * G) := by
    rw [Nat.add_mul, Nat.mul_add, Nat.mul_add, show b * (102 * G) = 102 * (b * G) by ac_rfl, show 102 * G * b = 102 * (b * G) by ac_rfl, show 102 * G * (102 * G) = 102 * (102 * G * G) by ac_rfl]
    omega
  have h2 := Nat.mul_le_mul_right G hb
  have h3 := Nat.mul_le_mul_right G hG
  rw [Nat.mul_assoc 3] at h2
  omega
set_option maxHeartbeats 0 in
theorem end_gen {st : UInt64 × UInt64 × UInt64} {S : UInt64} {v : Nat} {C F1 F2 : Int} (U : UG G O) (h1 : Fv st.1 C) (h2 : Fv st.2.1 F1) (h3 : Fv st.2.2 F2) (hS : Fv S (v : Int))
    (bC : -(19 * (G : Int)) ≤ C - O - v) (bC' : C - O - v ≤ 19 * (G : Int)) (b1 : -(6 * (G : Int)) ≤ F1) (b1' : F1 ≤ 6 * (G : Int)) (b2 : -(8 * (G : Int)) ≤ F2) (b2' : F2 ≤ 8 * (G : Int)) (v1 : O ≤ 5 * v) (v2 : v ≤ 3 * O) :
    ∃ H : Nat, Fv (endN st (Float64.sqrt S)) (H : Int) ∧ H ≤ 3 * O ∧ O ≤ 4 * H ∧ H * H ≤ v * O + 719 * (O * G) ∧ v * O ≤ H * H + 719 * (O * G) := by
  obtain ⟨hG0, hOG⟩ := og_pos U
  have hO0 : 0 < O := by omega
  obtain ⟨w, lo, hw, l1, l2, s1, s2⟩ := sqrt_err (j := 1022) hS (by omega) (by omega) (by
    rw [Int.natAbs_natCast, ← U.o, show 2 ^ (53 + 1022) = 2 * O by rw [U.o, ← Nat.pow_succ']]
    have := Nat.mul_le_mul_right O v2
    have e : 2 * O * (2 * O) = 4 * (O * O) := by rw [show (4 : Nat) = 2 * 2 by rfl]; ac_rfl
    have := Nat.mul_pos hO0 hO0
    have e2 : 3 * O * O = 3 * (O * O) := by ac_rfl
    omega)
  rw [Int.natAbs_natCast, ← U.o] at s1 s2
  have hq : (2 : Nat) ^ 1022 ≤ G := by rw [U.g]; exact Nat.pow_le_pow_right (by decide) (by decide)
  generalize (2 : Nat) ^ 1022 = Z at *
  obtain ⟨w1, w2, w3, w4⟩ := root_gen hG0 hOG v1 v2 l1 (by omega) s1 (Nat.lt_of_lt_of_le s2 (Nat.mul_le_mul (by omega) (by omega)))
  clear s1 s2 l1 l2 hq
  obtain ⟨z, r, s, _, _, k1, m1, m2, m3, m4, m5, m6⟩ := dl_near U hw (by rw [Int.natAbs_natCast]; omega) (Float64.neg (Float64.sqrt S)) (.inr (fv_neg hw))
  rw [k1 (fv_neg hw) (by omega), Int.natAbs_natCast] at m3 m4
  have bz : (z + v).natAbs ≤ 6 * G := by
    refine abs_le_of_mul hO0 ?_
    rw [Int.add_mul, ← Int.natCast_mul, show 6 * G * O = 6 * (O * G) by ac_rfl]
    generalize z * (O : Int) = zO at *
    generalize O * G = OG at *
    generalize w * w = ww at *
    generalize v * O = vO at *
    omega
  have bz1 : -(6 * (G : Int)) ≤ z + v := by omega
  have bz2 : z + v ≤ 6 * (G : Int) := by omega
  clear m3 m4 bz
  obtain ⟨C1, P1, Q1, u1, u2, u3, d1, d2, d3, d4, d5, d6⟩ := step_near U h1 m1 m2 h2 h3 (by omega) (by omega) (by omega) (by omega) m5 m6 (by omega) (by omega) (by omega) (by omega)
  obtain ⟨X, hX, t1, t2⟩ := tail_near U (st := stepN st (dlMul (Float64.neg (Float64.sqrt S)) (Float64.sqrt S))) u1 u2 u3 (by omega) (by omega) (by omega) (by omega) (by omega) (by omega)
  have bX : X.natAbs ≤ 50 * G := by omega
  clear t1 t2 d1 d2 d3 d4 d5 d6 bz1 bz2 m5 m6
  have two : Fv (Float64.ofInt 2) (2 * (O : Int)) := by
    have := dy_ofInt (i := 2) (by decide)
    rw [U.o, Int.natCast_pow]
    exact this
  obtain ⟨D, hD, dD⟩ := g_mul U two hw (by
    rw [Int.natAbs_mul, Int.natAbs_mul, Int.natAbs_natCast, Int.natAbs_natCast, show Int.natAbs 2 * O * w = O * (2 * w) by (rw [show Int.natAbs 2 = 2 by rfl]; ac_rfl)]
    exact Nat.mul_le_mul_left O (by omega))
  have bD : (D - 2 * w).natAbs ≤ G := by
    refine abs_le_of_mul hO0 ?_
    rw [Int.sub_mul, Nat.mul_comm G, show 2 * (w : Int) * O = 2 * O * w by ac_rfl]
    exact dD
  have D0 : 0 < D := by omega
  have D1 : O ≤ 2 * D.natAbs ∧ 0 < D := ⟨by omega, D0⟩
  have XO : X.natAbs * O ≤ 100 * (D.natAbs * G) := by
    have := Nat.mul_le_mul bX D1.1
    rw [show 50 * G * (2 * D.natAbs) = 100 * (D.natAbs * G) by (rw [show (100 : Nat) = 50 * 2 by rfl]; ac_rfl)] at this
    exact this
  obtain ⟨q, hq', dq⟩ := g_div U hX hD (by omega) (by
    rw [show D.natAbs * (2 ^ 54 * G) = 2 ^ 54 * (D.natAbs * G) by ac_rfl]
    omega)
  have bq : q.natAbs ≤ 101 * G := by
    refine Nat.le_of_mul_le_mul_right (c := D.natAbs) ?_ (by omega)
    rw [← Int.natAbs_mul]
    have t2 : (X * (O : Int)).natAbs = X.natAbs * O := by rw [Int.natAbs_mul, Int.natAbs_natCast]
    rw [show 101 * G * D.natAbs = 101 * (D.natAbs * G) by ac_rfl]
    generalize X * (O : Int) = XO at *
    generalize q * D = qD at *
    omega
  have w3' : w ≤ 2 * O + G := w1
  obtain ⟨H, hH, dH, dH'⟩ := g_add U hw hq' (by omega)
  clear bD D0 D1 bX dq
  have h102 : -(102 * (G : Int)) ≤ H - w := by omega
  have h102' : H - w ≤ 102 * (G : Int) := by omega
  have hHw : H.toNat ≤ w + 102 * G := by omega
  have hwH : w ≤ H.toNat + 102 * G := by omega
  have hHp : 0 ≤ H := by omega
  clear h102 h102' dH dH' bq
  refine ⟨H.toNat, ?_, by omega, by omega, ?_, ?_⟩
  · rw [Int.toNat_of_nonneg hHp]; exact hH
  · have := sq_close2 hHw (K := O) (by omega) (by omega)
    omega
  · have := sq_close2 hwH (K := O) (by omega) (by omega)
    omega
end
theorem dy_form {x : UInt64} {n k : Nat} (h : Dy x (n : Int) k) : ∃ q j, n = q * 2 ^ j ∧ q < 2 ^ 53 := by
  obtain ⟨q, e, h1, h2, _⟩ := fv_form h
  rw [natAbs_mul_pow, Int.natAbs_natCast] at h1
  by_cases he : k ≤ e
  · refine ⟨q, e - k, ?_, h2⟩
    have : n * 2 ^ k = q * 2 ^ (e - k) * 2 ^ k := by rw [h1, Nat.mul_assoc, ← Nat.pow_add, Nat.sub_add_cancel he]
    exact Nat.eq_of_mul_eq_mul_right (Nat.two_pow_pos k) this
  · refine ⟨n, 0, by simp, ?_⟩
    have : n * 2 ^ (k - e) = q := by
      refine Nat.eq_of_mul_eq_mul_right (Nat.two_pow_pos e) ?_
      rw [Nat.mul_assoc, ← Nat.pow_add, Nat.sub_add_cancel (by omega)]
      exact h1
    have h3 : n ≤ n * 2 ^ (k - e) := Nat.le_mul_of_pos_right _ (Nat.two_pow_pos _)
    omega
/-- times a power of two, exactly -/
theorem scale_dy {x s : UInt64} {n k L : Nat} (hx : Dy x (n : Int) k) (hs : Dy s 1 (2147 - L - k)) (hL : L ≤ 1073) (hk : k + L ≤ 2147) (hn : n < 2 ^ (L + 1)) : Dy (Float64.mul x s) (n : Int) (1073 - L) := by
  obtain ⟨q, j, e1, e2⟩ := dy_form hx
  by_cases h0 : n = 0
  · subst h0
    have := dy_mul (l := 1073 - L) hx hs (by decide) (by omega) (by omega)
    simpa using this
  have hj : j ≤ L := by
    have : 2 ^ j ≤ n := by rw [e1]; exact Nat.le_mul_of_pos_left _ (by rcases Nat.eq_zero_or_pos q with h | h; · subst h; simp at e1; omega
                                                                       · exact h)
    exact two_pow_between this hn
  have hpp : (n : Int) * 2 ^ k * (1 * 2 ^ (2147 - L - k)) = ((2 ^ 1074 * (n * 2 ^ (1073 - L)) : Nat) : Int) := by
    rw [Int.one_mul, Int.mul_assoc, ← Int.pow_add, Int.natCast_mul, Int.natCast_mul, Int.natCast_pow, Int.natCast_pow, show k + (2147 - L - k) = 1074 + (1073 - L) by omega, Int.pow_add, Int.mul_left_comm]
    rfl
  obtain ⟨v, hv, e3⟩ := mul_exact (q := q) (j := j + (1073 - L)) hx hs (by rw [hpp, Int.natAbs_natCast, e1, Nat.mul_assoc q, ← Nat.pow_add]) e2 (by omega)
  rw [hpp, Nat.mul_comm (2 ^ 1074), Int.natCast_mul _ (2 ^ 1074), Int.natCast_pow] at e3
  have : v = ((n * 2 ^ (1073 - L) : Nat) : Int) := Int.eq_of_mul_eq_mul_right (Int.ne_of_gt (pow_pos_int 1074)) e3
  rw [this, Int.natCast_mul, Int.natCast_pow] at hv
  exact hv
end Mine

end FL10
section FL11
open PySem PySem.W PySem.Calls PyProof.Rows
open PySem.Builtin.Math
set_option linter.unusedVariables false
set_option exponentiation.threshold 3000
namespace Mine
open PySem.Float64 (V Right dist infMag pack decode val sgn)
theorem fin2 {P h OG : Nat} (k1 : P ≤ h + 1460 * OG) (k2 : 281474976710656 * OG ≤ P) : P * 137438953471 ≤ h * 137438953472 := by omega
theorem dy_fv {x : UInt64} {n k : Nat} (h : Dy x (n : Int) k) : Fv x ((n * 2 ^ k : Nat) : Int) := by
  rw [Int.natCast_mul, Int.natCast_pow]; exact h
set_option maxHeartbeats 0 in
theorem scaled_gen {x y big : UInt64} {n1 n2 k L M : Nat} (hx : Dy x (n1 : Int) k) (hy : Dy y (n2 : Int) k) (hb : Dy big (M : Int) k) (hM1 : 2 ^ L ≤ M) (hM2 : M < 2 ^ (L + 1)) (h1 : n1 ≤ M) (h2 : n2 ≤ M)
    (hM : M = n1 ∨ M = n2) (hL : L ≤ 120) (hk1 : 102 ≤ k) (hk2 : k ≤ 1900) :
    ∃ R : Nat, Fv (scaledNorm [x, y] big) (R : Int) ∧ ∀ Z T O G : Nat, Z = 2 ^ (1073 - L) → T = 2 ^ (2147 - L - k) → UG G O →
      (R * T) * (R * T) * 2 ^ 37 ≤ (n1 * n1 + n2 * n2) * (Z * Z) * (O * O) * (2 ^ 37 + 1) ∧ (n1 * n1 + n2 * n2) * (Z * Z) * (O * O) * 137438953471 ≤ (R * T) * (R * T) * 2 ^ 37 := by
  rw [scaled2, frexp_exp hb hM1 hM2]
  dsimp only
  have hs := dy_ldexp_one (E := -((L + k : Int) - 1073)) (K := 2147 - L - k) (by omega) (by omega) (by omega)
  have hX := scale_dy hx hs (by omega) (by omega) (by omega)
  have hY := scale_dy hy hs (by omega) (by omega) (by omega)
  have eO : (2 : Nat) ^ 1074 = 2 ^ (L + 1) * 2 ^ (1073 - L) := by rw [← Nat.pow_add]; congr 1; omega
  have eO2 : (2 : Nat) ^ 1074 = 2 * (2 ^ L * 2 ^ (1073 - L)) := by rw [eO, Nat.pow_succ]; ac_rfl
  have U := ug
  generalize hO : (2 : Nat) ^ 1074 = O at *
  generalize hG : (2 : Nat) ^ 1024 = G at *
  have hX' := dy_fv hX
  have hY' := dy_fv hY
  have aX : n1 * 2 ^ (1073 - L) ≤ O := by rw [eO]; exact Nat.mul_le_mul_right _ (by omega)
  have aY : n2 * 2 ^ (1073 - L) ≤ O := by rw [eO]; exact Nat.mul_le_mul_right _ (by omega)
  obtain ⟨C, F1, F2, S, q1, q2, q3, q4, c1, c2, c3, c4, c5, c6, s1, s2⟩ := head_near U hX' hY' aX aY
  obtain ⟨hG0, hOG⟩ := og_pos U
  have hO0 : 0 < O := by omega
  have eP : n1 * 2 ^ (1073 - L) * (n1 * 2 ^ (1073 - L)) + n2 * 2 ^ (1073 - L) * (n2 * 2 ^ (1073 - L)) = (n1 * n1 + n2 * n2) * (2 ^ (1073 - L) * 2 ^ (1073 - L)) := by
    rw [Nat.add_mul]; congr 1 <;> ac_rfl
  have aM : O ≤ 2 * (M * 2 ^ (1073 - L)) := by rw [eO2]; exact Nat.mul_le_mul_left 2 (Nat.mul_le_mul_right _ hM1)
  have P1 : O * O ≤ 4 * (n1 * 2 ^ (1073 - L) * (n1 * 2 ^ (1073 - L)) + n2 * 2 ^ (1073 - L) * (n2 * 2 ^ (1073 - L))) := by
    have := sq_mul_le aM
    have e : 2 * (M * 2 ^ (1073 - L)) * (2 * (M * 2 ^ (1073 - L))) = 4 * (M * 2 ^ (1073 - L) * (M * 2 ^ (1073 - L))) := by rw [show (4 : Nat) = 2 * 2 by rfl]; ac_rfl
    rw [e] at this
    rcases hM with rfl | rfl
    · omega
    · omega
  have P2 : n1 * 2 ^ (1073 - L) * (n1 * 2 ^ (1073 - L)) + n2 * 2 ^ (1073 - L) * (n2 * 2 ^ (1073 - L)) ≤ 2 * (O * O) := by
    have := sq_mul_le aX
    have := sq_mul_le aY
    omega
  rw [eP] at s1 s2 P1 P2
  have eOO : O * O = 2 ^ 50 * (O * G) := by conv => lhs; rhs; rw [hOG]
                                            ac_rfl
  generalize hPP : (n1 * n1 + n2 * n2) * (2 ^ (1073 - L) * 2 ^ (1073 - L)) = P at *
  have S0 : 0 ≤ S := by
    rcases Int.lt_or_le S 0 with hlt | hge
    · exfalso
      have := Int.mul_neg_of_neg_of_pos hlt (show (0 : Int) < O by omega)
      generalize S * (O : Int) = SO at *
      generalize O * G = OG at *
      generalize O * O = OO at *
      omega
    · exact hge
  obtain ⟨v, rfl⟩ := Int.eq_ofNat_of_zero_le S0
  rw [← Int.natCast_mul] at s1 s2
  have v1 : O ≤ 5 * v := by
    refine Nat.le_of_mul_le_mul_right (c := O) ?_ hO0
    rw [Nat.mul_assoc]
    generalize v * O = vO at *
    generalize O * G = OG at *
    generalize O * O = OO at *
    omega
  have v2 : v ≤ 3 * O := by
    refine Nat.le_of_mul_le_mul_right (c := O) ?_ hO0
    rw [Nat.mul_assoc]
    generalize v * O = vO at *
    generalize O * G = OG at *
    generalize O * O = OO at *
    omega
  obtain ⟨H, hH, b1, b2, b3, b4⟩ := end_gen U q1 q2 q3 q4 (by omega) (by omega) (by omega) (by omega) (by omega) (by omega) v1 v2
  have hK : (1 : Int) * 2 ^ (2147 - L - k) = ((2 ^ (2147 - L - k) : Nat) : Int) := by rw [Int.one_mul, Int.natCast_pow]; rfl
  have hs' : Fv (Float64.ldexp Float64.one (-((L + k : Int) - 1073))) (((2 ^ (2147 - L - k) : Nat) : Int)) := by
    have := hs
    unfold Dy at this
    rw [hK] at this
    exact this
  have hKpos := Nat.two_pow_pos (2147 - L - k)
  have hP : 2 ^ (2147 - L - k) * 2 ^ (L + k + 3) = 4 * (O * O) := by
    rw [← hO, ← Nat.pow_add, show 2147 - L - k + (L + k + 3) = 2 + (1074 + 1074) by omega, Nat.pow_add, Nat.pow_add 2 1074]
  have hP2 : 2 ^ (2147 - L - k) * 2 ^ (L + k + 3 - 53) ≤ O * G := by
    rw [← hO, ← hG, ← Nat.pow_add, ← Nat.pow_add]
    exact Nat.pow_le_pow_right (by decide) (by omega)
  obtain ⟨R, hR, dR⟩ := div_err (P := L + k + 3) hH hs' (by omega) (by omega) (by omega) (by
    rw [Int.natAbs_natCast, Int.natAbs_natCast, hP, hO, ← Nat.mul_assoc]
    exact Nat.mul_le_mul_right _ (by omega))
  rw [Int.natAbs_natCast] at dR
  have e1 : ((2 : Int) ^ 1074) = ((2 ^ 1074 : Nat) : Int) := by simp
  rw [e1, hO, ← Int.natCast_mul] at dR
  have dR2 := Nat.le_trans dR hP2
  have hHG : G ≤ H := by omega
  have R0 : 0 ≤ R := by
    rcases Int.lt_or_le R 0 with hlt | hge
    · exfalso
      have := Int.mul_neg_of_neg_of_pos hlt (show (0 : Int) < ((2 ^ (2147 - L - k) : Nat) : Int) by omega)
      have hm := Nat.mul_le_mul_right O hHG
      rw [Nat.mul_comm G] at hm
      have := Nat.mul_pos hO0 hG0
      generalize R * ((2 ^ (2147 - L - k) : Nat) : Int) = RT at *
      generalize H * O = HO at *
      generalize O * G = OG at *
      omega
    · exact hge
  obtain ⟨r, rfl⟩ := Int.eq_ofNat_of_zero_le R0
  refine ⟨r, hR, fun Z T O' G' hZ hT U' => ?_⟩
  obtain rfl : O' = O := by rw [U'.o, hO]
  obtain rfl : G' = G := by rw [U'.g, hG]
  subst hZ
  rw [← hT] at dR2
  rw [hPP]
  rw [← Int.natCast_mul] at dR2
  clear dR hP2 hP eP hKpos hs' hs e1 R0 S0 hK
  have y1 : r * T ≤ (H + G') * O' := by
    rw [Nat.add_mul, Nat.mul_comm G']
    generalize r * T = Y at *
    generalize H * O' = HO at *
    generalize O' * G' = OG at *
    omega
  have y2 : (H - G') * O' ≤ r * T := by
    rw [Nat.sub_mul, Nat.mul_comm G']
    generalize r * T = Y at *
    generalize H * O' = HO at *
    generalize O' * G' = OG at *
    omega
  have z1 := sq_mul_le y1
  have z2 := sq_mul_le y2
  have w1 := sq_close2 (a := H + G') (b := H) (G := G') (K := O') (by omega) b1 (by omega)
  have w2 := sq_close2 (a := H) (b := H - G') (G := G') (K := O') (by omega) (by omega) (by omega)
  have f1 : (H + G') * O' * ((H + G') * O') = (H + G') * (H + G') * (O' * O') := by ac_rfl
  have f2 : (H - G') * O' * ((H - G') * O') = (H - G') * (H - G') * (O' * O') := by ac_rfl
  rw [f1] at z1
  rw [f2] at z2
  generalize r * T * (r * T) = YY at *
  have g1 : (H + G') * (H + G') * 2 ^ 37 ≤ P * (2 ^ 37 + 1) := by
    generalize (H + G') * (H + G') = h1 at *
    generalize H * H = HH at *
    generalize v * O' = vO at *
    generalize O' * G' = OG at *
    generalize O' * O' = OO at *
    omega
  have g2 : P * 137438953471 ≤ (H - G') * (H - G') * 2 ^ 37 := by
    generalize (H - G') * (H - G') = h1 at *
    generalize H * H = HH at *
    generalize v * O' = vO at *
    generalize O' * G' = OG at *
    generalize O' * O' = OO at *
    have k1 : P ≤ h1 + 1460 * OG := by omega
    have k2 : 281474976710656 * OG ≤ P := by omega
    exact fin2 k1 k2
  constructor
  · calc YY * 2 ^ 37 ≤ (H + G') * (H + G') * (O' * O') * 2 ^ 37 := Nat.mul_le_mul_right _ z1
      _ = (H + G') * (H + G') * 2 ^ 37 * (O' * O') := by ac_rfl
      _ ≤ P * (2 ^ 37 + 1) * (O' * O') := Nat.mul_le_mul_right _ g1
      _ = P * (O' * O') * (2 ^ 37 + 1) := by ac_rfl
  · calc P * (O' * O') * 137438953471 = P * 137438953471 * (O' * O') := by ac_rfl
      _ ≤ (H - G') * (H - G') * 2 ^ 37 * (O' * O') := Nat.mul_le_mul_right _ g2
      _ = (H - G') * (H - G') * (O' * O') * 2 ^ 37 := by ac_rfl
      _ ≤ YY * 2 ^ 37 := Nat.mul_le_mul_right _ z2
/-- the norm of any two floats of middling size: the square within 2^-37 -/
theorem norm_gen {A B : UInt64} {n1 n2 : Int} {k : Nat} (hA : Dy A n1 k) (hB : Dy B n2 k) (h1 : n1.natAbs < 2 ^ 120) (h2 : n2.natAbs < 2 ^ 120) (hk1 : 102 ≤ k) (hk2 : k ≤ 1900) :
    ∃ R : Nat, Fv (vectorNorm [Float64.abs A, Float64.abs B]) (R : Int) ∧ R * R * 2 ^ 37 ≤ (n1.natAbs * n1.natAbs + n2.natAbs * n2.natAbs) * (2 ^ k * 2 ^ k) * (2 ^ 37 + 1) ∧
      (n1.natAbs * n1.natAbs + n2.natAbs * n2.natAbs) * (2 ^ k * 2 ^ k) * 137438953471 ≤ R * R * 2 ^ 37 := by
  obtain ⟨big, M, hM, m1, m2, m3, hv⟩ := vec_two (dy_abs hA) (dy_abs hB) hk1
  rw [hv]
  by_cases h : M = 0
  · rw [if_pos h]
    subst h
    have z1 : n1.natAbs = 0 := by omega
    have z2 : n2.natAbs = 0 := by omega
    refine ⟨0, zero_dy hM, ?_, ?_⟩ <;> rw [z1, z2]
    · rw [Nat.zero_mul, Nat.zero_mul]; exact Nat.zero_le _
    · rw [Nat.zero_mul, Nat.zero_mul]; exact Nat.zero_le _
  · rw [if_neg h]
    obtain ⟨L, hL1, hL2⟩ := log_ex (show 0 < M by omega)
    have hL : L ≤ 119 := two_pow_between (b := 119) hL1 (by omega)
    obtain ⟨R, hR, hf⟩ := scaled_gen (dy_abs hA) (dy_abs hB) hM hL1 hL2 m1 m2 m3 (by omega) hk1 hk2
    obtain ⟨f1, f2⟩ := hf _ _ _ _ rfl rfl ug
    refine ⟨R, hR, ?_⟩
    generalize n1.natAbs * n1.natAbs + n2.natAbs * n2.natAbs = N at *
    have e1 : (2 : Nat) ^ (1073 - L) * 2 ^ (1073 - L) * (2 ^ 1074 * 2 ^ 1074) = 2 ^ k * 2 ^ k * (2 ^ (2147 - L - k) * 2 ^ (2147 - L - k)) := by
      rw [← Nat.pow_add, ← Nat.pow_add, ← Nat.pow_add, ← Nat.pow_add, ← Nat.pow_add, ← Nat.pow_add]
      congr 1
      omega
    have hTp := Nat.mul_pos (Nat.two_pow_pos (2147 - L - k)) (Nat.two_pow_pos (2147 - L - k))
    have e2 : R * 2 ^ (2147 - L - k) * (R * 2 ^ (2147 - L - k)) = R * R * (2 ^ (2147 - L - k) * 2 ^ (2147 - L - k)) := by ac_rfl
    rw [Nat.mul_assoc N, e1, e2] at f1 f2
    generalize (2 : Nat) ^ (2147 - L - k) * 2 ^ (2147 - L - k) = TT at *
    generalize (2 : Nat) ^ k * 2 ^ k = KK at *
    constructor
    · refine Nat.le_of_mul_le_mul_right (c := TT) ?_ hTp
      calc R * R * 2 ^ 37 * TT = R * R * TT * 2 ^ 37 := by ac_rfl
        _ ≤ _ := f1
        _ = N * KK * (2 ^ 37 + 1) * TT := by ac_rfl
    · refine Nat.le_of_mul_le_mul_right (c := TT) ?_ hTp
      calc N * KK * 137438953471 * TT = N * (KK * TT) * 137438953471 := by ac_rfl
        _ ≤ _ := f2
        _ = R * R * 2 ^ 37 * TT := by ac_rfl
end Mine

end FL11
section FL12
open PySem PySem.W PySem.Calls PyProof.Rows
open PySem.Builtin.Math
set_option linter.unusedVariables false
set_option exponentiation.threshold 3000
namespace Mine
open PySem.Float64 (V Right dist infMag pack decode val sgn)
theorem form_mul {v q i J : Nat} (hv : v = q * 2 ^ i) (hq : q < 2 ^ 53) (h : 2 ^ (52 + J) ≤ v) : ∃ t, v = t * 2 ^ J := by
  have h1 : v < 2 ^ (52 + i + 1) := by
    rw [hv, show 52 + i + 1 = 53 + i by omega, Nat.pow_add]
    exact Nat.mul_lt_mul_of_pos_right hq (Nat.two_pow_pos _)
  have h2 := two_pow_between h h1
  refine ⟨q * 2 ^ (i - J), ?_⟩
  rw [hv, Nat.mul_assoc, ← Nat.pow_add]
  congr 2
  omega
theorem fv_lat {x : UInt64} {v : Int} {J : Nat} (h : Fv x v) (hv : 2 ^ (52 + J) ≤ v.natAbs) : ∃ t : Int, v = t * 2 ^ J := by
  obtain ⟨q, i, e, hq, _⟩ := fv_form h
  obtain ⟨t, ht⟩ := form_mul e hq hv
  have e1 : ((2 : Int) ^ J) = ((2 ^ J : Nat) : Int) := by simp
  rcases Int.natAbs_eq v with h1 | h1
  · exact ⟨t, by rw [h1, ht, Int.natCast_mul, e1]⟩
  · exact ⟨-t, by rw [h1, ht, Int.natCast_mul, e1, Int.neg_mul]⟩
theorem lat {x : UInt64} {n : Int} {k s : Nat} (h : Dy x n k) (hn : 2 ^ (52 + s) ≤ n.natAbs) : ∃ t : Int, n = t * 2 ^ s := by
  obtain ⟨t, ht⟩ := fv_lat (J := s + k) h (by
    rw [natAbs_mul_pow, ← Nat.add_assoc, Nat.pow_add]
    exact Nat.mul_le_mul_right _ hn)
  refine ⟨t, ?_⟩
  rw [Int.pow_add, ← Int.mul_assoc] at ht
  exact dy_inj.mp ht
theorem ex_add {x y : UInt64} {a b t : Int} {k s : Nat} (hx : Dy x a k) (hy : Dy y b k) (h : a + b = t * 2 ^ s) (ht : t.natAbs ≤ 2 ^ 53) (hk : k + s ≤ 1900) : Dy (Float64.add x y) (a + b) k := by
  have e : (a * 2 ^ k + b * 2 ^ k).natAbs = t.natAbs * 2 ^ (s + k) := by
    rw [← Int.add_mul, h, Int.mul_assoc, ← Int.pow_add, natAbs_mul_pow]
  unfold Dy
  rw [Int.add_mul]
  by_cases h1 : t.natAbs < 2 ^ 53
  · exact add_exact hx hy e h1 (by omega)
  · have e2 : t.natAbs = 2 ^ 53 := by omega
    refine add_exact (q := 1) (j := 53 + (s + k)) hx hy ?_ (by decide) (by omega)
    rw [e, e2, ← Nat.pow_add, Nat.one_mul]
theorem ex_sub {x y : UInt64} {a b t : Int} {k s : Nat} (hx : Dy x a k) (hy : Dy y b k) (h : a - b = t * 2 ^ s) (ht : t.natAbs ≤ 2 ^ 53) (hk : k + s ≤ 1900) : Dy (Float64.sub x y) (a - b) k := by
  rw [sub_def]
  have := ex_add hx (dy_neg hy) (t := t) (s := s) (by omega) ht hk
  exact this
theorem back_nat {n m : Int} {k r : Nat} (h : 2 * (n * 2 ^ k - m * 2 ^ k).natAbs ≤ 2 ^ (r + k)) : 2 * (n - m).natAbs ≤ 2 ^ r := by
  rw [← Int.sub_mul, natAbs_mul_pow, Nat.pow_add, ← Nat.mul_assoc] at h
  exact Nat.le_of_mul_le_mul_right h (Nat.two_pow_pos _)
theorem rd_lat {x : UInt64} {v a : Int} {k r : Nat} (h : Fv x v) (he : 2 * (v - a * 2 ^ k).natAbs ≤ 2 ^ (r + k)) (hr : r ≤ 53) (ha : 2 ^ 53 ≤ a.natAbs) : ∃ n : Int, v = n * 2 ^ k ∧ 2 * (n - a).natAbs ≤ 2 ^ r := by
  have h1 : (2 : Nat) ^ (r + k) ≤ 2 ^ (53 + k) := Nat.pow_le_pow_right (by decide) (by omega)
  have h2 : 2 ^ (53 + k) ≤ (a * 2 ^ k).natAbs := by
    rw [natAbs_mul_pow, Nat.pow_add]
    exact Nat.mul_le_mul_right _ ha
  have h3 : (2 : Nat) ^ (53 + k) = 2 * 2 ^ (52 + k) := by rw [show 53 + k = 52 + k + 1 by omega, Nat.pow_succ, Nat.mul_comm]
  obtain ⟨n, rfl⟩ := fv_lat (J := k) h (by
    generalize a * 2 ^ k = A at *
    omega)
  exact ⟨n, rfl, back_nat he⟩
theorem nab {x : Int} {r : Nat} (h : 2 * x.natAbs ≤ 2 ^ r) : -2 ^ r ≤ 2 * x ∧ 2 * x ≤ 2 ^ r := by
  have e : ((2 : Int) ^ r) = ((2 ^ r : Nat) : Int) := by simp
  rw [e]
  generalize (2 : Nat) ^ r = z at *
  omega
theorem nab0 (r : Nat) : (-2 ^ r : Int) ≤ 2 * 0 ∧ 2 * 0 ≤ (2 : Int) ^ r := by
  have := pow_pos_int r
  omega
theorem rd_add {x y : UInt64} {a b : Int} {k r : Nat} (hx : Dy x a k) (hy : Dy y b k) (h : (a + b).natAbs ≤ 2 ^ (53 + r)) (hr : r ≤ 53) (hk : k ≤ 1900) : ∃ n : Int, Dy (Float64.add x y) n k ∧ -2 ^ r ≤ 2 * (n - (a + b)) ∧ 2 * (n - (a + b)) ≤ 2 ^ r := by
  by_cases h1 : (a + b).natAbs < 2 ^ 53
  · exact ⟨a + b, dy_add hx hy h1 (by omega), by rw [Int.sub_self]; exact nab0 r⟩
  · obtain ⟨v, hv, he⟩ := add_err (P := 53 + r + k) hx hy (by omega) (by omega) (by
      rw [← Int.add_mul, natAbs_mul_pow, Nat.pow_add]
      exact Nat.mul_le_mul_right _ h)
    rw [show 53 + r + k - 53 = r + k by omega, ← Int.add_mul] at he
    obtain ⟨n, rfl, hn⟩ := rd_lat hv he hr (by omega)
    exact ⟨n, hv, nab hn⟩
theorem fma_exact {x y z : UInt64} {a b c r : Int} {q j : Nat} (hx : Fv x a) (hy : Fv y b) (hz : Fv z c) (h : a * b + c * 2 ^ 1074 = r * 2 ^ 1074) (hr : r.natAbs = q * 2 ^ j) (hq : q < 2 ^ 53) (hj : j ≤ 2045) : Fv (Float64.fma x y z) r := by
  obtain ⟨s, m, e, hd, rfl⟩ := hx
  obtain ⟨s', m', e', hd', rfl⟩ := hy
  obtain ⟨s'', m'', e'', hd'', rfl⟩ := hz
  obtain ⟨h0, h1⟩ := fma_right hd hd' hd''
  have hp : (0 : Int) < 2 ^ 1074 := pow_pos_int 1074
  rw [h] at h0 h1
  by_cases hz : r = 0
  · subst hz
    exact h0 (Int.zero_mul _)
  · have hne : r * 2 ^ 1074 ≠ 0 := fun hh => by
      rcases Int.mul_eq_zero.mp hh with h' | h'
      · exact hz h'
      · omega
    obtain ⟨t, ht, hlt, hV⟩ := right_exact (h1 hne) (Nat.two_pow_pos _) (q := q) (j := j) (by rw [natAbs_mul_pow, hr, Nat.mul_comm]) hq hj
    rw [ht]
    have := fv_pack (decide (r * 2 ^ 1074 < 0)) hlt
    rw [hV, ← hr] at this
    have e2 : decide (r * 2 ^ 1074 < 0) = decide (r < 0) := by
      apply decide_eq_decide.mpr
      constructor
      · intro hh
        rcases Int.lt_or_le r 0 with h' | h'
        · exact h'
        · have := Int.mul_nonneg h' (Int.le_of_lt hp)
          omega
      · intro hh
        exact Int.mul_neg_of_neg_of_pos hh hp
    rw [e2] at this ⊢
    rw [sgn_int] at this
    exact this
theorem rd_dl {x y : UInt64} {a b : Int} {k r j i : Nat} (hx : Dy x a j) (hy : Dy y b i) (hji : j + i = 1074 + k) (h : (a * b).natAbs ≤ 2 ^ (53 + r)) (hr : r ≤ 53) (hk : k ≤ 1900) :
    ∃ n : Int, Dy (dlMul x y).1 n k ∧ Dy (dlMul x y).2 (a * b - n) k ∧ -2 ^ r ≤ 2 * (n - a * b) ∧ 2 * (n - a * b) ≤ 2 ^ r := by
  have hpi : (2 : Int) ^ j * 2 ^ i = 2 ^ 1074 * 2 ^ k := by rw [← Int.pow_add, hji, Int.pow_add]
  have e0 : a * 2 ^ j * (b * 2 ^ i) = a * b * 2 ^ k * 2 ^ 1074 := by
    calc a * 2 ^ j * (b * 2 ^ i) = a * b * (2 ^ j * 2 ^ i) := by ac_rfl
      _ = _ := by rw [hpi]; ac_rfl
  by_cases h1 : (a * b).natAbs < 2 ^ 53
  · obtain ⟨h2, h3⟩ := dl_mul hx hy h1 hji (by omega)
    refine ⟨a * b, h2, ?_, by rw [Int.sub_self]; exact nab0 r⟩
    rw [Int.sub_self]
    exact dy_zero h3 k
  · obtain ⟨v, hv, he⟩ := mul_err (P := 53 + r + k) hx hy (by omega) (by omega) (by
      rw [e0, natAbs_mul_pow, natAbs_mul_pow, Nat.pow_add, Nat.mul_comm (2 ^ 1074)]
      exact Nat.mul_le_mul_right _ (Nat.mul_le_mul_right _ h))
    rw [show 53 + r + k - 53 = r + k by omega, e0, ← Int.sub_mul, natAbs_mul_pow, ← Nat.mul_assoc, Nat.mul_comm (2 ^ 1074)] at he
    have he := Nat.le_of_mul_le_mul_right he (Nat.two_pow_pos _)
    obtain ⟨n, rfl, hn⟩ := rd_lat hv he hr (by omega)
    refine ⟨n, hv, ?_, nab hn⟩
    have hr2 : (2 : Nat) ^ r ≤ 2 ^ 53 := Nat.pow_le_pow_right (by decide) hr
    refine fma_exact (q := (a * b - n).natAbs) (j := k) hx hy (dy_neg hv) ?_ (natAbs_mul_pow _ _) (by omega) (by omega)
    rw [e0, ← Int.add_mul, ← Int.add_mul]
    rfl
theorem rd_step {c f1 f2 p r : UInt64} {C P R F1 F2 n a : Int} {k s : Nat} (hc : Dy c C k) (hp : Dy p P k) (hr : Dy r R k) (h1 : Dy f1 F1 k) (h2 : Dy f2 F2 k) (hn : Dy (Float64.add c p) n k)
    (hs : C - n = a * 2 ^ s) (ha : a.natAbs ≤ 2 ^ 53) (hk : k + s ≤ 1900) (b0 : (C - n + P).natAbs < 2 ^ 53) (b1 : (F1 + R).natAbs < 2 ^ 53) (b2 : (F2 + (C - n + P)).natAbs < 2 ^ 53) :
    Dy (stepN (c, f1, f2) (p, r)).1 n k ∧ Dy (stepN (c, f1, f2) (p, r)).2.1 (F1 + R) k ∧ Dy (stepN (c, f1, f2) (p, r)).2.2 (F2 + (C - n + P)) k := by
  have e2 := ex_sub hc hn hs ha hk
  have e3 := dy_add e2 hp b0 (by omega)
  exact ⟨hn, dy_add h1 hr b1 (by omega), dy_add h2 e3 b2 (by omega)⟩
theorem below {a : Nat} (h : a < 2 ^ 37) : a * a ≤ 2 ^ 74 - 2 ^ 38 + 1 := by
  have := sq_mul_le (show a ≤ 2 ^ 37 - 1 by omega)
  omega
theorem above {a : Nat} (h : 2 ^ 36 ≤ a) : 2 ^ 72 ≤ a * a := by
  have := sq_mul_le h
  omega
theorem one1000 : Dy Float64.one (2 ^ 74) 1000 := dy_one rfl
theorem head_ex {x y : UInt64} {a b : Nat} (hx : Dy x (a : Int) 1037) (hy : Dy y (b : Int) 1037) (ha : a < 2 ^ 37) (hb : b < 2 ^ 37) (hm : 2 ^ 36 ≤ a ∨ 2 ^ 36 ≤ b) :
    ∃ s f1 f2 t : Int, Dy (headN x y).1 s 1000 ∧ Dy (headN x y).2.1 f1 1000 ∧ Dy (headN x y).2.2 f2 1000 ∧ s = t * 2 ^ 22 ∧ s + (f1 + f2) = 2 ^ 74 + ((a * a + b * b : Nat) : Int) ∧ (-2 ^ 24 ≤ f1 ∧ f1 ≤ 2 ^ 24) ∧ (-2 ^ 24 ≤ f2 ∧ f2 ≤ 2 ^ 24) := by
  have A := below ha
  have B := below hb
  have hAB : 2 ^ 72 ≤ a * a + b * b := by
    rcases hm with h | h <;> have := above h <;> omega
  obtain ⟨p, hp, hp', ep, ep'⟩ := rd_dl (k := 1000) (r := 21) hx hx rfl (by rw [← Int.natCast_mul, Int.natAbs_natCast]; omega) (by decide) (by decide)
  obtain ⟨q, hq, hq', eq, eq'⟩ := rd_dl (k := 1000) (r := 21) hy hy rfl (by rw [← Int.natCast_mul, Int.natAbs_natCast]; omega) (by decide) (by decide)
  rw [← Int.natCast_mul] at hp' hq' ep eq ep' eq'
  generalize a * a = aa at *
  generalize b * b = bb at *
  obtain ⟨s, hs, es, es'⟩ := rd_add (r := 22) one1000 hp (by omega) (by decide) (by decide)
  obtain ⟨ts, hts⟩ := lat (s := 21) hs (by omega)
  obtain ⟨g1, g2, g3⟩ := rd_step (R := aa - p) (F1 := 0) (F2 := 0) (a := 2 ^ 53 - ts) (s := 21) one1000 hp hp' (dy_zero (fv_zero false) _) (dy_zero (fv_zero false) _) hs (by omega) (by omega) (by decide) (by omega) (by omega) (by omega)
  obtain ⟨u, hu, eu, eu'⟩ := rd_add (r := 23) g1 hq (by omega) (by decide) (by decide)
  obtain ⟨tu, htu⟩ := lat (s := 22) hu (by omega)
  obtain ⟨k1, k2, k3⟩ := rd_step (R := bb - q) (a := ts - 2 * tu) (s := 21) g1 hq hq' g2 g3 hu (by omega) (by omega) (by decide) (by omega) (by omega) (by omega)
  exact ⟨u, _, _, tu, k1, k2, k3, htu, by omega, by omega, by omega⟩
theorem tail_ex {st : UInt64 × UInt64 × UInt64} {s f1 f2 t N : Int} (h1 : Dy st.1 s 1000) (h2 : Dy st.2.1 f1 1000) (h3 : Dy st.2.2 f2 1000) (hs : s = t * 2 ^ 22) (e : s + (f1 + f2) = 2 ^ 74 + N) (b1 : -2 ^ 24 ≤ f1 ∧ f1 ≤ 2 ^ 24) (b2 : -2 ^ 24 ≤ f2 ∧ f2 ≤ 2 ^ 24)
    (hN : 0 ≤ N) (hN2 : N ≤ 2 * (2 ^ 74 - 2 ^ 38 + 1)) : Dy (Float64.sub st.1 Float64.one) (s - 2 ^ 74) 1000 ∧ Dy (Float64.add st.2.1 st.2.2) (f1 + f2) 1000 ∧ s - 2 ^ 74 + (f1 + f2) = N :=
  ⟨ex_sub (t := t - 2 ^ 52) (s := 22) h1 one1000 (by omega) (by omega) (by decide), dy_add h2 h3 (by omega) (by decide), by omega⟩
theorem end_ex {st : UInt64 × UInt64 × UInt64} {h : UInt64} {s f1 f2 t : Int} {c : Nat} (h1 : Dy st.1 s 1000) (h2 : Dy st.2.1 f1 1000) (h3 : Dy st.2.2 f2 1000) (hs : s = t * 2 ^ 22) (e : s + (f1 + f2) = 2 ^ 74 + ((c * c : Nat) : Int)) (b1 : -2 ^ 24 ≤ f1 ∧ f1 ≤ 2 ^ 24) (b2 : -2 ^ 24 ≤ f2 ∧ f2 ≤ 2 ^ 24)
    (hh : Dy h (c : Int) 1037) (c0 : 2 ^ 36 ≤ c) (c1 : c * c ≤ 2 * (2 ^ 74 - 2 ^ 38 + 1)) : Dy (endN st h) (c : Int) 1037 := by
  have cc := above c0
  have c3 : c < 2 ^ 38 := by
    rcases Nat.lt_or_ge c (2 ^ 38) with h | h
    · exact h
    · have := sq_mul_le h
      omega
  obtain ⟨p, hp, hp', ep, ep'⟩ := rd_dl (k := 1000) (r := 22) (dy_neg hh) hh rfl (by rw [Int.neg_mul, Int.natAbs_neg, ← Int.natCast_mul, Int.natAbs_natCast]; omega) (by decide) (by decide)
  rw [Int.neg_mul, ← Int.natCast_mul] at hp' ep ep'
  have hc0 : 0 < c := by omega
  generalize c * c = N at *
  obtain ⟨u, hu, eu, eu'⟩ := rd_add (r := 22) h1 hp (by omega) (by decide) (by decide)
  obtain ⟨tu, htu⟩ := lat (s := 21) hu (by omega)
  have key : ∃ (a : Int) (z : Nat), s - u = a * 2 ^ z ∧ a.natAbs ≤ 2 ^ 53 ∧ 1000 + z ≤ 1900 := by
    by_cases hb : 2 ^ 74 ≤ p.natAbs
    · obtain ⟨tp, htp⟩ := lat (s := 22) hp hb
      have ex := ex_add (t := t + tp) (s := 22) h1 hp (by omega) (by omega) (by decide)
      have := dy_inj.mp (fv_uniq ex hu)
      exact ⟨-tp, 22, by omega, by omega, by decide⟩
    · obtain ⟨tp, htp⟩ := lat (s := 19) hp (by omega)
      exact ⟨2 * t - tu, 21, by omega, by omega, by decide⟩
  obtain ⟨a, z, ha, ha2, hz⟩ := key
  obtain ⟨k1, k2, k3⟩ := rd_step h1 hp hp' h2 h3 hu ha ha2 hz (by omega) (by omega) (by omega)
  have t1 := ex_sub (t := tu - 2 ^ 53) (s := 21) k1 one1000 (by omega) (by omega) (by decide)
  have t2 := dy_add k2 k3 (by omega) (by decide)
  have t3 := dy_add t1 t2 (by omega) (by decide)
  have ez : u - 2 ^ 74 + (f1 + (-(N : Int) - p) + (f2 + (s - u + p))) = 0 := by omega
  rw [ez] at t3
  have two := dy_ofInt (i := 2) (by decide)
  have m2 := dy_mul (l := 1037) two hh (by omega) (by omega) (by omega)
  have q0 := dy_div (c := 0) (j := 1037) (l := 1074) (by rw [Int.zero_mul]; exact dy_zero (zero_dy t3) _) m2 (by omega) (by decide) (by omega) (by omega)
  have r0 := dy_add hh (dy_zero (zero_dy q0) 1037) (by omega) (by omega)
  rw [Int.add_zero] at r0
  exact r0
end Mine

end FL12
section FL14
open PySem PySem.W PySem.Calls PyProof.Rows
open PySem.Builtin.Math
set_option linter.unusedVariables false
set_option exponentiation.threshold 3000
namespace Mine
open PySem.Float64 (V Right dist infMag pack decode val sgn)
theorem pow_cat {a b c : Nat} (h : a + b = c) : (2 : Nat) ^ a * 2 ^ b = 2 ^ c := by rw [← Nat.pow_add, h]
theorem V_form {t : Nat} (h : t < infMag) : ∃ q i, V t = q * 2 ^ i ∧ q < 2 ^ 53 := by
  obtain ⟨q, i, e, hq, _⟩ := fv_form (fv_pack false h)
  rw [sgn_eq, if_neg (by decide), Int.natAbs_natCast] at e
  exact ⟨q, i, e, hq⟩
theorem off_aux {r b z v H : Nat} (hv : v = r * z) (hH : H = b * z) (hne : v ≠ H) : v + z ≤ H ∨ H + z ≤ v := by
  subst hv hH
  rcases Nat.lt_or_ge r b with h2 | h2
  · left
    have := Nat.mul_le_mul_right z (show r + 1 ≤ b by omega)
    rw [Nat.add_mul, Nat.one_mul] at this
    exact this
  · right
    have h3 : r ≠ b := fun hh => hne (by rw [hh])
    have := Nat.mul_le_mul_right z (show b + 1 ≤ r by omega)
    rw [Nat.add_mul, Nat.one_mul] at this
    exact this
theorem off_aux2 {u w w' p c v : Nat} (h : ¬ u ≤ v) (hu : u = p * w) (hw : w' ≤ w) (hp : p < c) : v + w' ≤ c * w := by
  have := Nat.mul_le_mul_right w (show p + 1 ≤ c by omega)
  rw [Nat.add_mul, Nat.one_mul] at this
  omega
/-- a float that is not c * 2^1037 lies a full step off it -/
theorem step_off {c m t : Nat} (h1 : 2 ^ m < c) (hm : m ≤ 52) (ht : t < infMag) (hne : V t ≠ c * 2 ^ 1037) : V t + 2 ^ (m + 985) ≤ c * 2 ^ 1037 ∨ c * 2 ^ 1037 + 2 ^ (m + 985) ≤ V t := by
  obtain ⟨q, i, e, hq⟩ := V_form ht
  by_cases h : 2 ^ (52 + (m + 985)) ≤ V t
  · obtain ⟨r, hr⟩ := form_mul e hq h
    exact off_aux (b := c * 2 ^ (52 - m)) hr (by rw [Nat.mul_assoc, pow_cat (c := 1037) (by omega)]) hne
  · exact .inl (off_aux2 h (pow_cat (by omega)).symm (Nat.pow_le_pow_right (by decide) (by omega)) h1)
theorem sqrt_gap {x : UInt64} {S c m γ : Nat} (hx : Dy x (S : Int) 1000) (hS : 0 < S) (h1 : 2 ^ m < c) (h2 : c < 2 ^ 38) (hm : m = 36 ∧ γ = 1 ∨ m = 37 ∧ γ = 2)
    (lo : c * c < S + (c * γ - 1) / 65536) (hi : S ≤ c * c + c * γ / 65536) : Dy (Float64.sqrt x) (c : Int) 1037 := by
  have hz : (0 : Int) < (S : Int) * 2 ^ 1000 := Int.mul_pos (by omega) (pow_pos_int _)
  obtain ⟨mm, e, hd, hmm, hv⟩ := fv_pos hx hz
  obtain ⟨t, ht, hlt, hup, hdn⟩ := Float64.sqrt_right hd hmm
  obtain ⟨a, ha, hVa⟩ := repr_V 1037 c (by omega) (by decide)
  rw [hv, natAbs_mul_pow, Int.natAbs_natCast] at hup hdn
  have eG : ((2 : Nat) ^ 1000 * 2 ^ 1074) = 2 ^ 32 * (2 ^ 1021 * 2 ^ 1021) := by
    have q1 := pow_cat (a := 1000) (b := 1074) (c := 2074) rfl
    have q2 := pow_cat (a := 1021) (b := 1021) (c := 2042) rfl
    have q3 := pow_cat (a := 32) (b := 2042) (c := 2074) rfl
    exact q1.trans (q3.symm.trans (congrArg (2 ^ 32 * ·) q2.symm))
  have eH : (2 : Nat) ^ 1037 = 65536 * 2 ^ 1021 := by rw [show (65536 : Nat) = 2 ^ 16 by rfl, pow_cat rfl]
  have eg : (2 : Nat) ^ (m + 985) = γ * 2 ^ 1021 := by
    rcases hm with ⟨rfl, rfl⟩ | ⟨rfl, rfl⟩
    · rw [Nat.one_mul]
    · rw [show (37 + 985 : Nat) = 1021 + 1 by rfl, Nat.pow_succ, Nat.mul_comm]
  have hm' : m ≤ 52 := by omega
  have hoff := fun hne => step_off h1 hm' hlt (t := t) hne
  have key : V t = c * 2 ^ 1037 := by
    apply Decidable.byContradiction
    intro hne
    have hoff := hoff hne
    rw [eH, eg, ← Nat.mul_assoc] at hoff
    rw [Nat.mul_assoc, eG] at hup hdn
    rw [eH, ← Nat.mul_assoc] at hVa
    have hG := Nat.two_pow_pos 1021
    generalize (2 : Nat) ^ 1021 = G at *
    have hGG := Nat.mul_pos hG hG
    have ef : 4 * (S * (2 ^ 32 * (G * G))) = S * 17179869184 * (G * G) := by
      rw [show (17179869184 : Nat) = 4 * 2 ^ 32 by rfl]; ac_rfl
    rw [ef] at hup hdn
    have g1 : c * γ ≤ c * 65536 := Nat.mul_le_mul_left _ (by omega)
    rcases hoff with h | h
    · have hta : t < a := by
        rcases Nat.lt_or_ge t a with h' | h'
        · exact h'
        · exfalso
          have : V a ≤ V t := by
            rcases Nat.eq_or_lt_of_le h' with rfl | h''
            · exact Nat.le_refl _
            · exact Nat.le_of_lt (Float64.V_lt h'')
          have : 0 < γ * G := Nat.mul_pos (by omega) hG
          omega
      have h3 := hup a hta
      have h4 : V t + V a ≤ (2 * (c * 65536) - γ) * G := by
        rw [Nat.sub_mul, Nat.mul_assoc 2]
        omega
      have h5 := Nat.le_trans h3 (sq_mul_le h4)
      have e5 : (2 * (c * 65536) - γ) * G * ((2 * (c * 65536) - γ) * G) = (2 * (c * 65536) - γ) * (2 * (c * 65536) - γ) * (G * G) := by ac_rfl
      rw [e5] at h5
      have h6 := Nat.le_of_mul_le_mul_right h5 hGG
      have e6 : ((2 * (c * 65536) - γ) * (2 * (c * 65536) - γ) : Nat) + 4 * 65536 * (c * γ) = c * c * 17179869184 + γ * γ := by
        have hb : γ ≤ 2 * (c * 65536) := by omega
        have hb' : ((2 * (c * 65536) - γ : Nat) : Int) = 2 * (c * 65536) - γ := by omega
        have : (((2 * (c * 65536) - γ) * (2 * (c * 65536) - γ) : Nat) : Int) + 4 * 65536 * (c * γ) = c * c * 17179869184 + γ * γ := by
          rw [Int.natCast_mul, hb']
          rw [Int.sub_mul, Int.mul_sub, Int.mul_sub]
          have q1 : (2 : Int) * (c * 65536) * (2 * (c * 65536)) = c * c * 17179869184 := by
            rw [show (17179869184 : Int) = 2 * 65536 * (2 * 65536) by rfl]; ac_rfl
          have q2 : (2 : Int) * (c * 65536) * γ = c * γ * 131072 := by
            rw [show (131072 : Int) = 2 * 65536 by rfl]; ac_rfl
          have q3 : (γ : Int) * (2 * (c * 65536)) = c * γ * 131072 := by
            rw [show (131072 : Int) = 2 * 65536 by rfl]; ac_rfl
          rw [q1, q2, q3]
          omega
        have e7 : ((c * γ : Nat) : Int) = (c : Int) * γ := Int.natCast_mul _ _
        have e8 : ((c * c : Nat) : Int) = (c : Int) * c := Int.natCast_mul _ _
        have e9 : ((γ * γ : Nat) : Int) = (γ : Int) * γ := Int.natCast_mul _ _
        generalize (2 * (c * 65536) - γ) * (2 * (c * 65536) - γ) = Q at *
        omega
      have h7 : γ * γ ≤ 4 := by rcases hm with ⟨_, rfl⟩ | ⟨_, rfl⟩ <;> decide
      generalize (2 * (c * 65536) - γ) * (2 * (c * 65536) - γ) = Q at *
      generalize c * γ = cg at *
      generalize c * c = cc at *
      generalize γ * γ = gg at *
      omega
    · have hta : a < t := by
        rcases Nat.lt_or_ge a t with h' | h'
        · exact h'
        · exfalso
          have : V t ≤ V a := by
            rcases Nat.eq_or_lt_of_le h' with rfl | h''
            · exact Nat.le_refl _
            · exact Nat.le_of_lt (Float64.V_lt h'')
          have : 0 < γ * G := Nat.mul_pos (by omega) hG
          omega
      have h3 := hdn a hta
      have h4 : (2 * (c * 65536) + γ) * G ≤ V t + V a := by
        rw [Nat.add_mul, Nat.mul_assoc 2]
        omega
      have h5 := Nat.le_trans (sq_mul_le h4) h3
      have e5 : (2 * (c * 65536) + γ) * G * ((2 * (c * 65536) + γ) * G) = (2 * (c * 65536) + γ) * (2 * (c * 65536) + γ) * (G * G) := by ac_rfl
      rw [e5] at h5
      have h6 := Nat.le_of_mul_le_mul_right h5 hGG
      have e6 : ((2 * (c * 65536) + γ) * (2 * (c * 65536) + γ) : Nat) = c * c * 17179869184 + c * γ * 262144 + γ * γ := by
        rw [Nat.add_mul, Nat.mul_add, Nat.mul_add]
        have q1 : 2 * (c * 65536) * (2 * (c * 65536)) = c * c * 17179869184 := by
          rw [show (17179869184 : Nat) = 2 * 65536 * (2 * 65536) by rfl]; ac_rfl
        have q2 : 2 * (c * 65536) * γ = c * γ * 131072 := by
          rw [show (131072 : Nat) = 2 * 65536 by rfl]; ac_rfl
        have q3 : γ * (2 * (c * 65536)) = c * γ * 131072 := by
          rw [show (131072 : Nat) = 2 * 65536 by rfl]; ac_rfl
        rw [q1, q2, q3]
        omega
      rw [e6] at h6
      have h7 : 0 < γ * γ := Nat.mul_pos (by omega) (by omega)
      generalize c * γ = cg at *
      generalize c * c = cc at *
      generalize γ * γ = gg at *
      omega
  rw [ht]
  have := fv_pack false hlt
  rw [sgn_eq, if_neg (by decide), key, Int.natCast_mul, Int.natCast_pow] at this
  exact this
end Mine

end FL14
section FL13
open PySem PySem.W PySem.Calls PyProof.Rows
open PySem.Builtin.Math
set_option linter.unusedVariables false
set_option exponentiation.threshold 3000
namespace Mine
open PySem.Float64 (V Right dist infMag pack decode val sgn)
theorem cc_bnd {c : Nat} (h : c * c ≤ 2 * (2 ^ 74 - 2 ^ 38 + 1)) : c < 2 ^ 38 := by
  rcases Nat.lt_or_ge c (2 ^ 38) with h' | h'
  · exact h'
  · have := sq_mul_le h'
    omega
theorem sqrt_cc {x y : UInt64} {p q : Int} {c : Nat} (hx : Dy x p 1000) (hy : Dy y q 1000) (e : p + q = ((c * c : Nat) : Int)) (c0 : 2 ^ 36 ≤ c) (c1 : c * c ≤ 2 * (2 ^ 74 - 2 ^ 38 + 1)) : Dy (Float64.sqrt (Float64.add x y)) (c : Int) 1037 := by
  have c3 := cc_bnd c1
  have hcc := above c0
  by_cases ec : c = 2 ^ 36 ∨ c = 2 ^ 37
  · have ha : Dy (Float64.add x y) ((c * c : Nat) : Int) 1000 := by
      rw [← e]
      rcases ec with rfl | rfl
      · exact ex_add (t := 1) (s := 72) hx hy (by omega) (by decide) (by decide)
      · exact ex_add (t := 1) (s := 74) hx hy (by omega) (by decide) (by decide)
    exact dy_sqrt ha (by omega) (by omega) (by decide) (by decide)
  · by_cases hm : c < 2 ^ 37
    · by_cases hb : c * c ≤ 2 ^ 73
      · obtain ⟨n, hn, en, en'⟩ := rd_add (r := 20) hx hy (by rw [e, Int.natAbs_natCast]; omega) (by decide) (by decide)
        obtain ⟨S, rfl⟩ := Int.eq_ofNat_of_zero_le (show 0 ≤ n by omega)
        have hd : (c * 1 - 1) / 65536 ≥ 1048575 := by omega
        exact sqrt_gap (m := 36) (γ := 1) hn (by omega) (by omega) c3 (.inl ⟨rfl, rfl⟩) (by omega) (by omega)
      · obtain ⟨n, hn, en, en'⟩ := rd_add (r := 21) hx hy (by rw [e, Int.natAbs_natCast]; have := sq_mul_le (Nat.le_of_lt hm); omega) (by decide) (by decide)
        obtain ⟨S, rfl⟩ := Int.eq_ofNat_of_zero_le (show 0 ≤ n by omega)
        have hg : 2 ^ 36 + 2 ^ 18 ≤ c := by
          rcases Nat.lt_or_ge c (2 ^ 36 + 2 ^ 18) with h' | h'
          · have := sq_mul_le (Nat.le_of_lt h')
            omega
          · exact h'
        exact sqrt_gap (m := 36) (γ := 1) hn (by omega) (by omega) c3 (.inl ⟨rfl, rfl⟩) (by omega) (by omega)
    · obtain ⟨n, hn, en, en'⟩ := rd_add (r := 22) hx hy (by rw [e, Int.natAbs_natCast]; omega) (by decide) (by decide)
      obtain ⟨S, rfl⟩ := Int.eq_ofNat_of_zero_le (show 0 ≤ n by omega)
      exact sqrt_gap (m := 37) (γ := 2) hn (by omega) (by omega) c3 (.inr ⟨rfl, rfl⟩) (by omega) (by omega)
theorem dy_up {x : UInt64} {a k j l : Nat} (hx : Dy x (a : Int) k) (h : k = j + l) : Dy x ((a * 2 ^ j : Nat) : Int) l := by
  have := dy_scale hx h
  rw [Int.natCast_mul, Int.natCast_pow]
  exact this
theorem scaled_exact2 {x y big : UInt64} {n1 n2 c k L M : Nat} (hx : Dy x (n1 : Int) k) (hy : Dy y (n2 : Int) k) (hb : Dy big (M : Int) k) (hM1 : 2 ^ L ≤ M) (hM2 : M < 2 ^ (L + 1)) (h1 : n1 ≤ M) (h2 : n2 ≤ M) (hM : M = n1 ∨ M = n2)
    (hc : n1 * n1 + n2 * n2 = c * c) (hL : L ≤ 36) (hk1 : 102 ≤ k) (hk2 : k ≤ 1900) : Dy (scaledNorm [x, y] big) (c : Int) k := by
  rw [scaled2, frexp_exp hb hM1 hM2]
  dsimp only
  have hs := dy_ldexp_one (E := -((L + k : Int) - 1073)) (K := 2147 - L - k) (by omega) (by omega) (by omega)
  have hX := dy_up (j := 36 - L) (l := 1037) (scale_dy hx hs (by omega) (by omega) (by omega)) (by omega)
  have hY := dy_up (j := 36 - L) (l := 1037) (scale_dy hy hs (by omega) (by omega) (by omega)) (by omega)
  have e1 : (2 : Nat) ^ (L + 1) * 2 ^ (36 - L) = 2 ^ 37 := pow_cat (by omega)
  have e0 : (2 : Nat) ^ L * 2 ^ (36 - L) = 2 ^ 36 := pow_cat (by omega)
  have hz := Nat.two_pow_pos (36 - L)
  have w1 : n1 * 2 ^ (36 - L) < 2 ^ 37 := by rw [← e1]; exact Nat.mul_lt_mul_of_pos_right (by omega) hz
  have w2 : n2 * 2 ^ (36 - L) < 2 ^ 37 := by rw [← e1]; exact Nat.mul_lt_mul_of_pos_right (by omega) hz
  have wm : 2 ^ 36 ≤ n1 * 2 ^ (36 - L) ∨ 2 ^ 36 ≤ n2 * 2 ^ (36 - L) := by
    rcases hM with h | h
    · left; rw [← e0, ← h]; exact Nat.mul_le_mul_right _ hM1
    · right; rw [← e0, ← h]; exact Nat.mul_le_mul_right _ hM1
  have hcc : n1 * 2 ^ (36 - L) * (n1 * 2 ^ (36 - L)) + n2 * 2 ^ (36 - L) * (n2 * 2 ^ (36 - L)) = c * 2 ^ (36 - L) * (c * 2 ^ (36 - L)) := by
    have : n1 * 2 ^ (36 - L) * (n1 * 2 ^ (36 - L)) + n2 * 2 ^ (36 - L) * (n2 * 2 ^ (36 - L)) = (n1 * n1 + n2 * n2) * (2 ^ (36 - L) * 2 ^ (36 - L)) := by
      rw [Nat.add_mul]; congr 1 <;> ac_rfl
    rw [this, hc]
    ac_rfl
  obtain ⟨s, f1, f2, t, q1, q2, q3, q4, q5, q6, q7⟩ := head_ex hX hY w1 w2 wm
  have A := below w1
  have B := below w2
  have C0 : 2 ^ 36 ≤ c * 2 ^ (36 - L) := by
    rcases Nat.lt_or_ge (c * 2 ^ (36 - L)) (2 ^ 36) with h | h
    · have h3 := sq_mul_le (show c * 2 ^ (36 - L) ≤ 2 ^ 36 - 1 by omega)
      have : 2 ^ 72 ≤ c * 2 ^ (36 - L) * (c * 2 ^ (36 - L)) := by
        rcases wm with h' | h' <;> have := above h' <;> omega
      omega
    · exact h
  have C1 : c * 2 ^ (36 - L) * (c * 2 ^ (36 - L)) ≤ 2 * (2 ^ 74 - 2 ^ 38 + 1) := by omega
  rw [hcc] at q5
  obtain ⟨t1, t2, t3⟩ := tail_ex q1 q2 q3 q4 q5 q6 q7 (by omega) (by omega)
  have hr := sqrt_cc t1 t2 t3 C0 C1
  have he := end_ex (h := Float64.sqrt (tailN (headN (Float64.mul x (Float64.ldexp Float64.one (-((L + k : Int) - 1073)))) (Float64.mul y (Float64.ldexp Float64.one (-((L + k : Int) - 1073))))))) q1 q2 q3 q4 q5 q6 q7 hr C0 C1
  have he' : Dy (endN (headN (Float64.mul x (Float64.ldexp Float64.one (-((L + k : Int) - 1073)))) (Float64.mul y (Float64.ldexp Float64.one (-((L + k : Int) - 1073))))) (Float64.sqrt (tailN (headN (Float64.mul x (Float64.ldexp Float64.one (-((L + k : Int) - 1073)))) (Float64.mul y (Float64.ldexp Float64.one (-((L + k : Int) - 1073)))))))) ((c : Int) * 1) (1073 - L) := by
    have e3 : ((c * 2 ^ (36 - L) : Nat) : Int) = (c : Int) * 2 ^ (36 - L) := by rw [Int.natCast_mul, Int.natCast_pow]; rfl
    rw [e3] at he
    unfold Dy at he ⊢
    rw [Int.mul_one]
    rw [Int.mul_assoc, ← Int.pow_add, show 36 - L + 1037 = 1073 - L by omega] at he
    exact he
  refine dy_div (c := (c : Int)) (b := 1) he' hs (by decide) ?_ (by omega) (by omega)
  have := cc_bnd C1
  have h9 : c * 1 ≤ c * 2 ^ (36 - L) := Nat.mul_le_mul_left c hz
  omega
theorem norm_exact2 {A B : UInt64} {n1 n2 : Int} {c k : Nat} (hA : Dy A n1 k) (hB : Dy B n2 k) (h1 : n1.natAbs < 2 ^ 36) (h2 : n2.natAbs < 2 ^ 36) (hc : n1 * n1 + n2 * n2 = c * c) (hk1 : 102 ≤ k) (hk2 : k ≤ 1900) :
    Dy (vectorNorm [Float64.abs A, Float64.abs B]) (c : Int) k := by
  obtain ⟨big, M, hM, m1, m2, m3, hv⟩ := vec_two (dy_abs hA) (dy_abs hB) hk1
  rw [hv]
  have hcn : n1.natAbs * n1.natAbs + n2.natAbs * n2.natAbs = c * c := by
    have e1 := Int.natAbs_mul_self' n1
    have e2 := Int.natAbs_mul_self' n2
    omega
  by_cases h : M = 0
  · rw [if_pos h]
    have c0 : c = 0 := by
      have z1 : n1.natAbs = 0 := by omega
      have z2 : n2.natAbs = 0 := by omega
      rw [z1, z2] at hcn
      rcases Nat.eq_zero_or_pos c with h | h
      · exact h
      · have := Nat.mul_pos h h; omega
    rw [c0, ← h]
    exact hM
  · rw [if_neg h]
    obtain ⟨L, hL1, hL2⟩ := log_ex (show 0 < M by omega)
    have hL : L ≤ 35 := two_pow_between (b := 35) hL1 (by omega)
    exact scaled_exact2 (dy_abs hA) (dy_abs hB) hM hL1 hL2 m1 m2 m3 hcn (by omega) hk1 hk2
end Mine

end FL13
section DT
open PySem PySem.W PySem.Calls PyProof.Rows
open PySem.Builtin.Math
set_option linter.unusedVariables false
set_option exponentiation.threshold 3000
namespace Mine
def RX (fl : Bool) (a b X Y : Int) : Int := if fl then a * X + b * Y else a * X - b * Y
def RY (fl : Bool) (a b X Y : Int) : Int := if fl then b * X - a * Y else b * X + a * Y
/-- a product of bounded ints -/
theorem mul_bnd {x y : Int} {A B C : Nat} (hx : x.natAbs ≤ A) (hy : y.natAbs ≤ B) (h : A * B ≤ C) : (x * y).natAbs ≤ C := by
  rw [Int.natAbs_mul]; exact Nat.le_trans (Nat.mul_le_mul hx hy) h
theorem add_nb {x y : Int} {A B C : Nat} (hx : x.natAbs ≤ A) (hy : y.natAbs ≤ B) (h : A + B ≤ C) : (x + y).natAbs ≤ C ∧ (x - y).natAbs ≤ C := by omega
theorem rxy_nb (fl : Bool) {a b X Y : Int} {A B C D E : Nat} (h1 : (a * X).natAbs ≤ A) (h2 : (b * Y).natAbs ≤ B) (h3 : (b * X).natAbs ≤ C) (h4 : (a * Y).natAbs ≤ D) (e1 : A + B ≤ E) (e2 : C + D ≤ E) : (RX fl a b X Y).natAbs ≤ E ∧ (RY fl a b X Y).natAbs ≤ E := by
  unfold RX RY
  cases fl
  · exact ⟨(add_nb h1 h2 e1).2, (add_nb h3 h4 e2).1⟩
  · exact ⟨(add_nb h1 h2 e1).1, (add_nb h3 h4 e2).2⟩
abbrev mi (m : UInt64) (w : Int) : UInt64 := Float64.mul m (Float64.ofInt w)
abbrev si (m : UInt64) (w : Int) : UInt64 := Float64.mul m (Float64.abs (Float64.ofInt w))
theorem dy_mi {m : UInt64} {X w : Int} (h : Dy m X 1071) (hX : X.natAbs ≤ 2 ^ 36) (hw : w.natAbs ≤ 2 ^ 14) : Dy (mi m w) (X * w) 1071 :=
  dy_wi h hX hw (by decide) (by decide) (by decide)
theorem dy_si {m : UInt64} {X w : Int} (h : Dy m X 1071) (hX : X.natAbs ≤ 2 ^ 36) (hw : w.natAbs ≤ 2 ^ 14) : Dy (si m w) (X * (w.natAbs : Int)) 1071 :=
  dy_wa h hX hw (by decide) (by decide) (by decide)
section
variable {mu mu2 p0 p1 sg sg2 : UInt64} {X Y P0 P1 a b S S2 : Int}
theorem dy_x (h : Dy mu (P0 + X) 1071) (hp : Dy p0 P0 1071) (hX : X.natAbs ≤ 2 ^ 36) : Dy (Float64.sub mu p0) X 1071 := by
  have := dy_sub h hp (by omega) (by decide)
  rwa [show P0 + X - P0 = X by omega] at this
theorem dy_y (h : Dy mu2 (P1 + Y) 1071) (hp : Dy p1 P1 1071) (hY : Y.natAbs ≤ 2 ^ 36) : Dy (Float64.neg (Float64.neg (Float64.sub mu2 p1))) Y 1071 := by
  have := dy_neg (dy_neg (dy_x h hp hY))
  rwa [Int.neg_neg] at this
theorem turn_mean (fl : Bool) (h1 : Dy mu (P0 + X) 1071) (h2 : Dy mu2 (P1 + Y) 1071) (q0 : Dy p0 P0 1071) (q1 : Dy p1 P1 1071) (hX : X.natAbs ≤ 2 ^ 36) (hY : Y.natAbs ≤ 2 ^ 36) (ha : a.natAbs ≤ 2 ^ 14) (hb : b.natAbs ≤ 2 ^ 14)
    (hp0 : P0.natAbs ≤ 2 ^ 20) (hp1 : P1.natAbs ≤ 2 ^ 20) :
    Dy (Float64.add (Float64.add (mi (Float64.sub mu p0) a) (mi (Float64.neg (Float64.neg (Float64.sub mu2 p1))) b)) p0) (P0 + RX true a b X Y) 1071 ∧
    Dy (Float64.add (Float64.sub (mi (Float64.sub mu p0) b) (mi (Float64.neg (Float64.neg (Float64.sub mu2 p1))) a)) p1) (P1 + RY true a b X Y) 1071 ∧
    Dy (Float64.add (Float64.sub (mi (Float64.sub mu p0) a) (mi (Float64.neg (Float64.neg (Float64.sub mu2 p1))) b)) p0) (P0 + RX false a b X Y) 1071 ∧
    Dy (Float64.add (Float64.add (mi (Float64.sub mu p0) b) (mi (Float64.neg (Float64.neg (Float64.sub mu2 p1))) a)) p1) (P1 + RY false a b X Y) 1071 := by
  have hx := dy_x h1 q0 hX
  have hy := dy_y h2 q1 hY
  have b1 := mul_bnd (C := 2 ^ 50) hX ha (by decide)
  have b2 := mul_bnd (C := 2 ^ 50) hY hb (by decide)
  have b3 := mul_bnd (C := 2 ^ 50) hX hb (by decide)
  have b4 := mul_bnd (C := 2 ^ 50) hY ha (by decide)
  have d1 := dy_mi hx hX ha
  have d2 := dy_mi hy hY hb
  have d3 := dy_mi hx hX hb
  have d4 := dy_mi hy hY ha
  unfold RX RY
  simp only [if_true, Bool.false_eq_true, if_false]
  refine ⟨?_, ?_, ?_, ?_⟩
  · have := dy_add (dy_add d1 d2 (by omega) (by decide)) q0 (by omega) (by decide)
    rwa [show X * a + Y * b + P0 = P0 + (a * X + b * Y) by rw [Int.mul_comm X, Int.mul_comm Y]; omega] at this
  · have := dy_add (dy_sub d3 d4 (by omega) (by decide)) q1 (by omega) (by decide)
    rwa [show X * b - Y * a + P1 = P1 + (b * X - a * Y) by rw [Int.mul_comm X, Int.mul_comm Y]; omega] at this
  · have := dy_add (dy_sub d1 d2 (by omega) (by decide)) q0 (by omega) (by decide)
    rwa [show X * a - Y * b + P0 = P0 + (a * X - b * Y) by rw [Int.mul_comm X, Int.mul_comm Y]; omega] at this
  · have := dy_add (dy_add d3 d4 (by omega) (by decide)) q1 (by omega) (by decide)
    rwa [show X * b + Y * a + P1 = P1 + (b * X + a * Y) by rw [Int.mul_comm X, Int.mul_comm Y]; omega] at this
theorem turn_spread {f : Int} (h1 : Dy sg S 1071) (h2 : Dy sg2 S 1071) (hS : 0 ≤ S) (hS2 : S ≤ 2 ^ 20) (ha : a.natAbs ≤ 2 ^ 14) (hb : b.natAbs ≤ 2 ^ 14) (hf0 : 0 ≤ f) (hf : a * a + b * b = f * f) :
    Dy (vectorNorm [Float64.abs (si sg a), Float64.abs (si sg2 b)]) (f * S) 1071 := by
  have hSn : S.natAbs ≤ 2 ^ 36 := by omega
  have hS3 : S.natAbs ≤ 2 ^ 20 := by omega
  have d1 := dy_si h1 hSn ha
  have d2 := dy_si h2 hSn hb
  have b1 := mul_bnd (x := S) (y := (a.natAbs : Int)) (C := 2 ^ 34) hS3 (by rw [Int.natAbs_natCast]; exact ha) (by decide)
  have b2 := mul_bnd (x := S) (y := (b.natAbs : Int)) (C := 2 ^ 34) hS3 (by rw [Int.natAbs_natCast]; exact hb) (by decide)
  have e1 : ((f * S).toNat : Int) = f * S := Int.toNat_of_nonneg (Int.mul_nonneg hf0 hS)
  have := norm_exact2 (c := (f * S).toNat) d1 d2 (by omega) (by omega) (by
    rw [e1]
    have a1 := Int.natAbs_mul_self' a
    have a2 := Int.natAbs_mul_self' b
    calc S * (a.natAbs : Int) * (S * (a.natAbs : Int)) + S * (b.natAbs : Int) * (S * (b.natAbs : Int)) = S * S * ((a.natAbs : Int) * a.natAbs + (b.natAbs : Int) * b.natAbs) := by
          rw [Int.mul_add]; congr 1 <;> ac_rfl
      _ = S * S * (f * f) := by rw [a1, a2, hf]
      _ = f * S * (f * S) := by ac_rfl) (by decide) (by decide)
  rwa [e1] at this
theorem back_fin {M1 M2 S1 S2' : UInt64} {q X0 Y0 S0 : Int} (h1 : Dy M1 (P0 + q * X0) 1071) (h2 : Dy M2 (P1 + q * Y0) 1071) (h3 : Dy S1 (q * S0) 1071) (h4 : Dy S2' (q * S0) 1071) (q0 : Dy p0 P0 1071) (q1 : Dy p1 P1 1071)
    (hq : 0 < q) (hq2 : q ≤ 2 ^ 28) (hX : X0.natAbs ≤ 2 ^ 21) (hY : Y0.natAbs ≤ 2 ^ 21) (hS : 0 ≤ S0) (hS2 : S0 ≤ 2 ^ 20) (hp0 : P0.natAbs ≤ 2 ^ 20) (hp1 : P1.natAbs ≤ 2 ^ 20) :
    Dy (Float64.add (Float64.div (Float64.neg (Float64.sub M1 p0)) (Float64.ofInt (-q))) p0) (P0 + X0) 1071 ∧ Dy (Float64.div S1 (Float64.abs (Float64.ofInt (-q)))) S0 1071 ∧
    Dy (Float64.neg (Float64.sub (Float64.div (Float64.sub M2 p1) (Float64.ofInt (-q))) p1)) (P1 + Y0) 1071 ∧ Dy (Float64.div S2' (Float64.abs (Float64.ofInt (-q)))) S0 1071 := by
  have b1 := mul_bnd (x := q) (y := X0) (C := 2 ^ 49) (A := 2 ^ 28) (by omega) hX (by decide)
  have b2 := mul_bnd (x := q) (y := Y0) (C := 2 ^ 49) (A := 2 ^ 28) (by omega) hY (by decide)
  have hq' : Dy (Float64.ofInt (-q)) (-q) 1074 := dy_ofInt (by omega)
  have hqa := dy_abs hq'
  have eq : (((-q).natAbs : Nat) : Int) = q := by omega
  rw [eq] at hqa
  have x1 := dy_sub h1 q0 (by omega) (by decide)
  rw [show P0 + q * X0 - P0 = q * X0 by omega] at x1
  have x2 := dy_neg x1
  have y1 := dy_sub h2 q1 (by omega) (by decide)
  rw [show P1 + q * Y0 - P1 = q * Y0 by omega] at y1
  have d1 := dy_div (c := X0) (b := -q) (j := 1071) (k := 1074) (l := 1071) (by rw [Int.mul_neg, Int.mul_comm X0]; exact x2) hq' (by omega) (by omega) (by omega) (by decide)
  have d2 := dy_div (c := -Y0) (b := -q) (j := 1071) (k := 1074) (l := 1071) (by rw [Int.neg_mul_neg, Int.mul_comm Y0]; exact y1) hq' (by omega) (by omega) (by omega) (by decide)
  have d3 := dy_div (c := S0) (b := q) (j := 1071) (k := 1074) (l := 1071) (by rw [Int.mul_comm S0]; exact h3) hqa (by omega) (by omega) (by omega) (by decide)
  have d4 := dy_div (c := S0) (b := q) (j := 1071) (k := 1074) (l := 1071) (by rw [Int.mul_comm S0]; exact h4) hqa (by omega) (by omega) (by omega) (by decide)
  refine ⟨?_, d3, ?_, d4⟩
  · have := dy_add d1 q0 (by omega) (by decide)
    rwa [Int.add_comm X0] at this
  · have := dy_neg (dy_sub d2 q1 (by omega) (by decide))
    rwa [show -(-Y0 - P1) = P1 + Y0 by omega] at this
end
theorem back_xy (fl : Bool) (a b X0 Y0 : Int) : RX fl a (if fl then b else -b) (RX fl a b X0 Y0) (RY fl a b X0 Y0) = (a * a + b * b) * X0 ∧ RY fl a (if fl then b else -b) (RX fl a b X0 Y0) (RY fl a b X0 Y0) = (a * a + b * b) * Y0 := by
  cases fl <;> simp only [RX, RY, if_true, Bool.false_eq_true, if_false] <;> constructor <;> grind
end Mine

end DT
section HP1
open PySem PySem.W PySem.Calls PyProof.Rows
set_option Elab.async false
set_option linter.unusedVariables false
namespace Mine
/-- an item of a made list at a written index -/
theorem item_lit {prog : Program} {w : World} {A : Around} {E : Value → Shared → Prop} {s : Shared} {h₀ : Heap} {value slice : PySem.Expr} {L : Addr} {news : List (Addr × Obj)} {D : Addr} {vs : Array Value} {k : Int} {kn : Nat} {t : Tok} {v : Value} {Q : Value → Shared → Prop} (N : News h₀ L s.heap news) (hm : (D, W.listOf vs kn) ∈ news)
    (h0 : 0 ≤ k) (hhi : k < 2 ^ 63) (hx : vs.toList[k.toNat]? = some v) (h : Q v s)
    (hs : subscripted slice false (.ref D) (.int k t) = operate [.ref D, .int k t] (getItem (.ref D) (.int k t)) := by with_unfolding_all rfl) :
    wpAny (model prog w) A (subscriptTail value slice (.ref D) (.int k t)) Q E s := by
  have hl : s.heap.IsList D vs := ⟨_, (N _ hm).1, rfl, kn, rfl⟩
  exact tail_any hl.typeIs slot_list_getitem.lookup (wpAny_getItem_list hl h0 hhi (by simpa using hx) h) hs
open PyProof.Rows.LCg in
theorem compEnd_one {h₀ : Heap} {L I C D l : Addr} {m : Str → Option Value} {s₁ : Shared} {oI oC oD ol : Obj} {S : List (Addr × Obj) → Prop} {rest : Value → List (Addr × Obj) → Prop} {y : Value} {h' : Heap} {tk : Nat} {nw : List (Addr × Obj)}
    (F : Fr h₀ L h' m) (N : News h₀ L h' ((l, ol) :: (I, oI) :: (C, oC) :: (D, oD) :: nw)) (hl : (@Ne Nat l I) ∧ (@Ne Nat l C) ∧ (@Ne Nat l D)) (off : Off3 I C D nw) (hS : S ((l, ol) :: nw)) (r : rest y ((l, ol) :: nw)) :
    CompEnd h₀ L m s₁ I oI C oC D oD S rest y { s₁ with heap := h', toks := tk } :=
  CompEnd.intro F N ((l, ol) :: nw) (by intro p hp; simp only [List.mem_cons] at hp ⊢; rcases hp with h | h | h | h | h <;> simp [h]) ⟨hl, off⟩ hS r

local macro_rules | `(tactic| walk_at "PP") => `(tactic| first | assumption | exact Nat.zero_lt_succ _ | (simp only [List.length_cons, List.length_nil]; exact Nat.zero_lt_succ _) | omega)
local macro_rules | `(tactic| walk_at "HR") => `(tactic| first | omega | (simp only [depth_under_make, depth_under_kw, depth_in1, depth_deeper, depth_caller]; first | decide | omega))
local macro_rules | `(tactic| walk_at "binaryOp Mult ref int") => `(tactic| (k_here; k_dflt (refine' mul_ri (by k_asm) (by k_asm) (by k_asm) (by k_asm) (by exact rfl) (by exact rfl) (by walk_at "HR") (by k_mem) (by k_mem) (by first | assumption | omega) (by first | assumption | exact nn_mul (by assumption)) ?_ (by k_in)); intros; (try k_sweep)))
local macro_rules | `(tactic| walk_at "binaryOp Mult int ref") => `(tactic| (k_here; k_dflt (refine' mul_ir (by k_asm) (by k_asm) (by k_asm) (by k_asm) (by exact rfl) (by exact rfl) (by walk_at "HR") (by k_mem) (by k_mem) (by first | assumption | omega) (by first | assumption | exact nn_mul (by assumption)) ?_ (by k_in)); intros; (try k_sweep)))
local macro_rules | `(tactic| walk_at "binaryOp Div ref int") => `(tactic| (k_here; k_dflt (refine' div_ri (by k_asm) (by k_asm) (by k_asm) (by k_asm) (by exact rfl) (by exact rfl) (by walk_at "HR") (by k_mem) (by k_mem) (by first | assumption | omega) (by first | assumption | omega) (by exact nz_abs (by first | assumption | omega) (by first | assumption | omega)) (by first | assumption | exact nn_div (by assumption)) ?_ (by k_in)); intros; (try k_sweep)))
local macro_rules | `(tactic| walk_at "binaryOp Add ref ref") => `(tactic| (k_here; k_dflt (refine' add_rr (by k_asm) (by k_asm) (by k_asm) (by k_asm) (by exact rfl) (by exact rfl) (by walk_at "HR") (by k_mem) (by k_mem) (by k_mem) (by k_mem) (by first | assumption | exact nn_div (by assumption)) ?_ (by k_in)); intros; (try k_sweep)))
local macro_rules | `(tactic| walk_at "binaryOp Sub ref ref") => `(tactic| (k_here; k_dflt (refine' sub_rr (by k_asm) (by k_asm) (by k_asm) (by k_asm) (by exact rfl) (by exact rfl) (by walk_at "HR") (by k_mem) (by k_mem) (by k_mem) (by k_mem) (by first | assumption | exact nn_div (by assumption)) ?_ (by k_in)); intros; (try k_sweep)))
local macro_rules | `(tactic| walk_at "binaryOp Add ref float") => `(tactic| (k_here; k_dflt (refine' add_rf (by k_asm) (by k_asm) (by k_asm) (by k_asm) (by exact rfl) (by exact rfl) (by walk_at "HR") (by k_mem) (by k_mem) (by assumption) (by first | assumption | exact nn_div (by assumption)) ?_ (by k_in)); intros; (try k_sweep)))
local macro_rules | `(tactic| walk_at "binaryOp Add float ref") => `(tactic| (k_here; k_dflt (refine' add_fr (by k_asm) (by k_asm) (by k_asm) (by k_asm) (by exact rfl) (by exact rfl) (by walk_at "HR") (by k_mem) (by k_mem) (by assumption) (by first | assumption | exact nn_div (by assumption)) ?_ (by k_in)); intros; (try k_sweep)))
local macro_rules | `(tactic| walk_at "binaryOp Sub ref float") => `(tactic| (k_here; k_dflt (refine' sub_rf (by k_asm) (by k_asm) (by k_asm) (by k_asm) (by exact rfl) (by exact rfl) (by walk_at "HR") (by k_mem) (by k_mem) (by assumption) (by first | assumption | exact nn_div (by assumption)) ?_ (by k_in)); intros; (try k_sweep)))
local macro_rules | `(tactic| walk_at "binaryOp Sub float ref") => `(tactic| (k_here; k_dflt (refine' sub_fr (by k_asm) (by k_asm) (by k_asm) (by k_asm) (by exact rfl) (by exact rfl) (by walk_at "HR") (by k_mem) (by k_mem) (by assumption) (by first | assumption | exact nn_div (by assumption)) ?_ (by k_in)); intros; (try k_sweep)))
local macro_rules | `(tactic| walk_at "unaryOp USub ref") => `(tactic| (k_here; k_dflt (refine' neg_r (by k_asm) (by k_asm) (by k_asm) (by k_asm) (by exact rfl) (by exact rfl) (by walk_at "HR") (by k_mem) (by k_mem) (by assumption) (by first | assumption | exact nn_div (by assumption)) ?_ (by k_in)); intros; (try k_sweep)))
local macro_rules | `(tactic| walk_at "getAttr ref") => `(tactic| (k_here; (with_reducible show wpAny _ _ (getAttr (Value.ref _) (Str.ofString "mean") _) _ _ _); k_dflt (refine' mean_c (by k_asm) (by k_asm) (by k_asm) (by k_asm) (by exact rfl) (by exact rfl) (by walk_at "HR") (by k_mem) (by k_mem) ?_ (by k_in)); intros; (try k_sweep)))
local macro_rules | `(tactic| walk_at "getAttr ref") => `(tactic| (k_here; (with_reducible show wpAny _ _ (getAttr (Value.ref _) (Str.ofString "stdev") _) _ _ _); k_dflt (refine' stdev_c (by k_asm) (by k_asm) (by k_asm) (by k_asm) (by exact rfl) (by exact rfl) (by walk_at "HR") (by k_mem) (by k_mem) ?_ (by k_in)); intros; (try k_sweep)))
local macro_rules | `(tactic| walk_at "execs cons") => `(tactic| (k_here; (first | ((with_reducible refine toks_genP (by walk_at "PP") ?_); intro tk' hk') | ((with_reducible refine toks_gen1 ?_); intro tk')); (with_reducible refine wpAny_execs_cons ?_); (try dsimp only)))
local macro_rules | `(tactic| walk_at "execs nil") => `(tactic| (k_here; (first | ((with_reducible refine toks_genP (by walk_at "PP") ?_); intro tk' hk') | ((with_reducible refine toks_gen1 ?_); intro tk')); (with_reducible refine wpAny_execs_nil ?_); (try dsimp only)))
local macro_rules | `(tactic| walk_at "subscriptTail Name") => `(tactic| (k_here; (with_reducible show wpAny _ _ (subscriptTail (PySem.Expr.Name _ _) _ (Value.ref _) (Value.int _ _)) _ _ _); k_dflt (refine' item_lit (by k_asm) (by k_mem) (by decide) (by decide) (by rfl) ?_ (by with_unfolding_all rfl))))
local macro_rules | `(tactic| walk_at "CompEnd") => `(tactic| ((rename News _ _ _ _ => lE); (rename (_ < _) ∧ (_ < _) ∧ (_ < _) ∧ _ => lt4); (refine compEnd_one (by assumption) lE ⟨Nat.ne_of_gt lt4.1, Nat.ne_of_gt lt4.2.1, Nat.ne_of_gt lt4.2.2.1⟩ (by assumption) (by lcg_src) ?_)))
local macro_rules | `(tactic| k_all) => `(tactic| assumption)
local macro_rules | `(tactic| k_mem) => `(tactic| assumption)
local macro_rules | `(tactic| lcg_sub) => `(tactic| (intro p hp; (repeat (refine List.Mem.tail _ ?_)); exact hp))
section
variable {w : World} {A₀ : Around} {E : Value → Shared → Prop} {s : Shared} {L : Addr} {h₀ base : Heap} {m mg mb : Str → Option Value} {news : List (Addr × Obj)} {mean : ExcName → Option Value} {env : Env} {outer : List Env} {Q : Value → Shared → Prop}
  {p : Program} {loose : List Str} {d u : Nat} {gs : Option (List Code)} {mu sg mu2 sg2 : UInt64} {t1 t2 t3 t4 : Tok} {x dx y dy : Addr}
set_option maxRecDepth 100000 in
set_option maxHeartbeats 8000000 in
theorem told_c {pl : Addr}
    (B : Below A₀ base outer h₀) (F : Fr h₀ L s.heap m) (N : News h₀ L s.heap news) (T : Top p loose mean mg mb h₀)
    (hf : env.frame = some L) (hke : env.scope.kind = .function) (hroom : d + 25 < recursionLimit)
    (hp : (pl, W.listOf #[Value.ref x, Value.ref y] 0) ∈ news) (hx : (x, ndO dx (.float mu t1) (.float sg t2)) ∈ news) (hdx : (dx, dictOf [] 0) ∈ news) (hy : (y, ndO dy (.float mu2 t3) (.float sg2 t4)) ∈ news) (hdy : (dy, dictOf [] 0) ∈ news)
    (h : ∀ (l l1 l2 : Addr) h' tk, Fr h₀ L h' m → News h₀ L h' ((l, PyProof.Rows.LCg.lst [Value.ref l1, Value.ref l2]) :: (l2, W.listOf #[Value.float mu2 t3, Value.float sg2 t4] 0) :: (l1, W.listOf #[Value.float mu t1, Value.float sg t2] 0) :: news) → Q (.ref l) { s with heap := h', toks := tk }) :
    (K1 w.params).In h₀ → wpAny (model PySem.Challenge.rw_oz0057_01.row.prog w) (AA d env outer gs u) (call (.ref 300) [.ref pl] []) Q E s := by
  k_fill
  intro X₀
  refine wpAny_call ?_
  refine' code_def (K := (K1 w.params)) B ?k2 ?k3 ?k4 T ?kA hf hke ?k6 ?k7 ?k8 ?k9 ?kB ?_ ?c2 ?c3 ?c4 ?c5
  case kA => exact rfl
  case k2 => k_asm
  case k3 => k_asm
  case k4 => k_asm
  case k6 => k_is
  case k7 => k_is
  case k8 => (show d < _; omega)
  case k9 => first | exact BindsTo.of_eq rfl | exact binds_K (by k_in) rfl (by k_is) rfl rfl rfl
  case kB => exact locs rfl
  case c5 => decide
  case c2 => exact rfl
  case c3 => exact rfl
  case c4 => exact rfl
  intro g' L' h' FG' F' N' B' X' T'
  dsimp only
  try k_fold
  k_steps
  refine' h _ _ _ _ _ ?fa ?fb
  case fa => assumption
  case fb => assumption

set_option maxRecDepth 100000 in
set_option maxHeartbeats 8000000 in
theorem turned_t {pl ql : Addr} {p0 p1 : UInt64} {u0 u1 : Tok} {a b : Int} {ta tb : Tok}
    (B : Below A₀ base outer h₀) (F : Fr h₀ L s.heap m) (N : News h₀ L s.heap news) (T : Top p loose mean mg mb h₀)
    (hf : env.frame = some L) (hke : env.scope.kind = .function) (hroom : d + 40 < recursionLimit)
    (hp : (pl, W.listOf #[Value.ref x, Value.ref y] 0) ∈ news) (hq : (ql, W.listOf #[Value.float p0 u0, Value.float p1 u1] 0) ∈ news) (hx : (x, ndO dx (.float mu t1) (.float sg t2)) ∈ news) (hdx : (dx, dictOf [] 0) ∈ news) (hy : (y, ndO dy (.float mu2 t3) (.float sg2 t4)) ∈ news) (hdy : (dy, dictOf [] 0) ∈ news) (hp2 : 0 < t2) (hp4 : 0 < t4) (ha : a.natAbs < 2 ^ 63) (hb : b.natAbs < 2 ^ 63) (n0 : NN sg) (n0b : NN sg2) (n1 : NN (PySem.Builtin.Math.vectorNorm [Float64.abs (Float64.mul sg (Float64.abs (Float64.ofInt a))), Float64.abs (Float64.mul sg2 (Float64.abs (Float64.ofInt b)))])) (n2 : NN (PySem.Builtin.Math.vectorNorm [Float64.abs (Float64.mul sg (Float64.abs (Float64.ofInt b))), Float64.abs (Float64.mul sg2 (Float64.abs (Float64.ofInt a)))]))
    (h : ∀ (l x1 d1 x2 d2 : Addr) h' tk v1 v2 v3 v4, 0 < tk → 0 < v1 → 0 < v2 → 0 < v3 → 0 < v4 → Fr h₀ L h' m → News h₀ L h' ((l, W.listOf #[Value.ref x1, Value.ref x2] 0) :: (x2, ndO d2 (.float (Float64.add (Float64.sub (Float64.mul (Float64.sub mu p0) (Float64.ofInt b)) (Float64.mul (Float64.neg (Float64.neg (Float64.sub mu2 p1))) (Float64.ofInt a))) p1) v3) (.float (PySem.Builtin.Math.vectorNorm [Float64.abs (Float64.mul sg (Float64.abs (Float64.ofInt b))), Float64.abs (Float64.mul sg2 (Float64.abs (Float64.ofInt a)))]) v4)) :: (d2, dictOf [] 0) :: (x1, ndO d1 (.float (Float64.add (Float64.add (Float64.mul (Float64.sub mu p0) (Float64.ofInt a)) (Float64.mul (Float64.neg (Float64.neg (Float64.sub mu2 p1))) (Float64.ofInt b))) p0) v1) (.float (PySem.Builtin.Math.vectorNorm [Float64.abs (Float64.mul sg (Float64.abs (Float64.ofInt a))), Float64.abs (Float64.mul sg2 (Float64.abs (Float64.ofInt b)))]) v2)) :: (d1, dictOf [] 0) :: news) → Q (.ref l) { s with heap := h', toks := tk }) :
    (K1 w.params).In h₀ → wpAny (model PySem.Challenge.rw_oz0057_01.row.prog w) (AA d env outer gs u) (call (.ref 288) [.int a ta, .int b tb, .bool true, .ref pl, .ref ql] []) Q E s := by
  k_fill
  intro X₀
  refine wpAny_call ?_
  refine' code_def (K := (K1 w.params)) B ?k2 ?k3 ?k4 T ?kA hf hke ?k6 ?k7 ?k8 ?k9 ?kB ?_ ?c2 ?c3 ?c4 ?c5
  case kA => exact rfl
  case k2 => k_asm
  case k3 => k_asm
  case k4 => k_asm
  case k6 => k_is
  case k7 => k_is
  case k8 => (show d < _; omega)
  case k9 => first | exact BindsTo.of_eq rfl | exact binds_K (by k_in) rfl (by k_is) rfl rfl rfl
  case kB => exact locs rfl
  case c5 => decide
  case c2 => exact rfl
  case c3 => exact rfl
  case c4 => exact rfl
  intro g' L' h' FG' F' N' B' X' T'
  dsimp only
  try k_fold
  k_steps
  rename News _ _ _ _ => kN
  refine' h _ _ _ _ _ _ _ _ _ _ _ ?p0 ?p1 ?p2 ?p3 ?p4 ?fa (news_sub kN ?fb)
  case fa => assumption
  case fb => lcg_sub
  case p0 => first | assumption | exact Nat.zero_lt_succ _ | (simp only [List.length_cons, List.length_nil]; exact Nat.zero_lt_succ _) | omega
  case p1 => first | assumption | exact Nat.zero_lt_succ _ | (simp only [List.length_cons, List.length_nil]; exact Nat.zero_lt_succ _) | omega
  case p2 => first | assumption | exact Nat.zero_lt_succ _ | (simp only [List.length_cons, List.length_nil]; exact Nat.zero_lt_succ _) | omega
  case p3 => first | assumption | exact Nat.zero_lt_succ _ | (simp only [List.length_cons, List.length_nil]; exact Nat.zero_lt_succ _) | omega
  case p4 => first | assumption | exact Nat.zero_lt_succ _ | (simp only [List.length_cons, List.length_nil]; exact Nat.zero_lt_succ _) | omega

set_option maxRecDepth 100000 in
set_option maxHeartbeats 8000000 in
theorem turned_f {pl ql : Addr} {p0 p1 : UInt64} {u0 u1 : Tok} {a b : Int} {ta tb : Tok}
    (B : Below A₀ base outer h₀) (F : Fr h₀ L s.heap m) (N : News h₀ L s.heap news) (T : Top p loose mean mg mb h₀)
    (hf : env.frame = some L) (hke : env.scope.kind = .function) (hroom : d + 40 < recursionLimit)
    (hp : (pl, W.listOf #[Value.ref x, Value.ref y] 0) ∈ news) (hq : (ql, W.listOf #[Value.float p0 u0, Value.float p1 u1] 0) ∈ news) (hx : (x, ndO dx (.float mu t1) (.float sg t2)) ∈ news) (hdx : (dx, dictOf [] 0) ∈ news) (hy : (y, ndO dy (.float mu2 t3) (.float sg2 t4)) ∈ news) (hdy : (dy, dictOf [] 0) ∈ news) (hp2 : 0 < t2) (hp4 : 0 < t4) (ha : a.natAbs < 2 ^ 63) (hb : b.natAbs < 2 ^ 63) (n0 : NN sg) (n0b : NN sg2) (n1 : NN (PySem.Builtin.Math.vectorNorm [Float64.abs (Float64.mul sg (Float64.abs (Float64.ofInt a))), Float64.abs (Float64.mul sg2 (Float64.abs (Float64.ofInt b)))])) (n2 : NN (PySem.Builtin.Math.vectorNorm [Float64.abs (Float64.mul sg (Float64.abs (Float64.ofInt b))), Float64.abs (Float64.mul sg2 (Float64.abs (Float64.ofInt a)))]))
    (h : ∀ (l x1 d1 x2 d2 : Addr) h' tk v1 v2 v3 v4, 0 < tk → 0 < v1 → 0 < v2 → 0 < v3 → 0 < v4 → Fr h₀ L h' m → News h₀ L h' ((l, W.listOf #[Value.ref x1, Value.ref x2] 0) :: (x2, ndO d2 (.float (Float64.add (Float64.add (Float64.mul (Float64.sub mu p0) (Float64.ofInt b)) (Float64.mul (Float64.neg (Float64.neg (Float64.sub mu2 p1))) (Float64.ofInt a))) p1) v3) (.float (PySem.Builtin.Math.vectorNorm [Float64.abs (Float64.mul sg (Float64.abs (Float64.ofInt b))), Float64.abs (Float64.mul sg2 (Float64.abs (Float64.ofInt a)))]) v4)) :: (d2, dictOf [] 0) :: (x1, ndO d1 (.float (Float64.add (Float64.sub (Float64.mul (Float64.sub mu p0) (Float64.ofInt a)) (Float64.mul (Float64.neg (Float64.neg (Float64.sub mu2 p1))) (Float64.ofInt b))) p0) v1) (.float (PySem.Builtin.Math.vectorNorm [Float64.abs (Float64.mul sg (Float64.abs (Float64.ofInt a))), Float64.abs (Float64.mul sg2 (Float64.abs (Float64.ofInt b)))]) v2)) :: (d1, dictOf [] 0) :: news) → Q (.ref l) { s with heap := h', toks := tk }) :
    (K1 w.params).In h₀ → wpAny (model PySem.Challenge.rw_oz0057_01.row.prog w) (AA d env outer gs u) (call (.ref 288) [.int a ta, .int b tb, .bool false, .ref pl, .ref ql] []) Q E s := by
  k_fill
  intro X₀
  refine wpAny_call ?_
  refine' code_def (K := (K1 w.params)) B ?k2 ?k3 ?k4 T ?kA hf hke ?k6 ?k7 ?k8 ?k9 ?kB ?_ ?c2 ?c3 ?c4 ?c5
  case kA => exact rfl
  case k2 => k_asm
  case k3 => k_asm
  case k4 => k_asm
  case k6 => k_is
  case k7 => k_is
  case k8 => (show d < _; omega)
  case k9 => first | exact BindsTo.of_eq rfl | exact binds_K (by k_in) rfl (by k_is) rfl rfl rfl
  case kB => exact locs rfl
  case c5 => decide
  case c2 => exact rfl
  case c3 => exact rfl
  case c4 => exact rfl
  intro g' L' h' FG' F' N' B' X' T'
  dsimp only
  try k_fold
  k_steps
  rename News _ _ _ _ => kN
  refine' h _ _ _ _ _ _ _ _ _ _ _ ?p0 ?p1 ?p2 ?p3 ?p4 ?fa (news_sub kN ?fb)
  case fa => assumption
  case fb => lcg_sub
  case p0 => first | assumption | exact Nat.zero_lt_succ _ | (simp only [List.length_cons, List.length_nil]; exact Nat.zero_lt_succ _) | omega
  case p1 => first | assumption | exact Nat.zero_lt_succ _ | (simp only [List.length_cons, List.length_nil]; exact Nat.zero_lt_succ _) | omega
  case p2 => first | assumption | exact Nat.zero_lt_succ _ | (simp only [List.length_cons, List.length_nil]; exact Nat.zero_lt_succ _) | omega
  case p3 => first | assumption | exact Nat.zero_lt_succ _ | (simp only [List.length_cons, List.length_nil]; exact Nat.zero_lt_succ _) | omega
  case p4 => first | assumption | exact Nat.zero_lt_succ _ | (simp only [List.length_cons, List.length_nil]; exact Nat.zero_lt_succ _) | omega

local macro_rules | `(tactic| walk_at "call ref") => `(tactic| (k_here; (with_reducible show wpAny _ _ (call (Value.ref 288) [Value.int _ _, Value.int _ _, Value.bool true, Value.ref _, Value.ref _] _) _ _ _); k_dflt (refine' turned_t (by k_asm) (by k_asm) (by k_asm) (by k_asm) (by exact rfl) (by exact rfl) (by walk_at "HR") (by k_mem) (by k_mem) (by k_mem) (by k_mem) (by k_mem) (by k_mem) (by assumption) (by assumption) (by first | assumption | omega) (by first | assumption | omega) (by first | assumption | exact nn_mul (by assumption)) (by first | assumption | exact nn_mul (by assumption)) (by first | assumption | exact nn_mul (by assumption)) (by first | assumption | exact nn_mul (by assumption)) ?_ (by k_in)); intros; (try k_sweep)))
local macro_rules | `(tactic| walk_at "call ref") => `(tactic| (k_here; (with_reducible show wpAny _ _ (call (Value.ref 288) [Value.int _ _, Value.int _ _, Value.bool false, Value.ref _, Value.ref _] _) _ _ _); k_dflt (refine' turned_f (by k_asm) (by k_asm) (by k_asm) (by k_asm) (by exact rfl) (by exact rfl) (by walk_at "HR") (by k_mem) (by k_mem) (by k_mem) (by k_mem) (by k_mem) (by k_mem) (by assumption) (by assumption) (by first | assumption | omega) (by first | assumption | omega) (by first | assumption | exact nn_mul (by assumption)) (by first | assumption | exact nn_mul (by assumption)) (by first | assumption | exact nn_mul (by assumption)) (by first | assumption | exact nn_mul (by assumption)) ?_ (by k_in)); intros; (try k_sweep)))
set_option maxRecDepth 100000 in
set_option maxHeartbeats 8000000 in
theorem back_t {pl ql : Addr} {p0 p1 : UInt64} {u0 u1 : Tok} {a b : Int} {ta tb : Tok}
    (B : Below A₀ base outer h₀) (F : Fr h₀ L s.heap m) (N : News h₀ L s.heap news) (T : Top p loose mean mg mb h₀)
    (hf : env.frame = some L) (hke : env.scope.kind = .function) (hroom : d + 60 < recursionLimit)
    (hp : (pl, W.listOf #[Value.ref x, Value.ref y] 0) ∈ news) (hq : (ql, W.listOf #[Value.float p0 u0, Value.float p1 u1] 0) ∈ news) (hx : (x, ndO dx (.float mu t1) (.float sg t2)) ∈ news) (hdx : (dx, dictOf [] 0) ∈ news) (hy : (y, ndO dy (.float mu2 t3) (.float sg2 t4)) ∈ news) (hdy : (dy, dictOf [] 0) ∈ news) (hp2 : 0 < t2) (hp4 : 0 < t4) (ha : a.natAbs < 2 ^ 63) (hb : b.natAbs < 2 ^ 63) (hk : Int.natAbs (-(a * a + b * b)) < 2 ^ 63) (hk0 : (-(a * a + b * b)) ≠ 0) (n0 : NN sg) (n0b : NN sg2) (n1 : NN (PySem.Builtin.Math.vectorNorm [Float64.abs (Float64.mul sg (Float64.abs (Float64.ofInt a))), Float64.abs (Float64.mul sg2 (Float64.abs (Float64.ofInt b)))])) (n2 : NN (PySem.Builtin.Math.vectorNorm [Float64.abs (Float64.mul sg (Float64.abs (Float64.ofInt b))), Float64.abs (Float64.mul sg2 (Float64.abs (Float64.ofInt a)))]))
    (h : ∀ (l x1 d1 x2 d2 : Addr) h' tk v1 v2 v3 v4, 0 < tk → 0 < v1 → 0 < v2 → 0 < v3 → 0 < v4 → Fr h₀ L h' m → News h₀ L h' ((l, W.listOf #[Value.ref x1, Value.ref x2] 0) :: (x2, ndO d2 (.float (Float64.neg (Float64.sub (Float64.div (Float64.sub (Float64.add (Float64.sub (Float64.mul (Float64.sub mu p0) (Float64.ofInt b)) (Float64.mul (Float64.neg (Float64.neg (Float64.sub mu2 p1))) (Float64.ofInt a))) p1) p1) (Float64.ofInt (-(a * a + b * b)))) p1)) v3) (.float (Float64.div (PySem.Builtin.Math.vectorNorm [Float64.abs (Float64.mul sg (Float64.abs (Float64.ofInt b))), Float64.abs (Float64.mul sg2 (Float64.abs (Float64.ofInt a)))]) (Float64.abs (Float64.ofInt (-(a * a + b * b))))) v4)) :: (d2, dictOf [] 0) :: (x1, ndO d1 (.float (Float64.add (Float64.div (Float64.neg (Float64.sub (Float64.add (Float64.add (Float64.mul (Float64.sub mu p0) (Float64.ofInt a)) (Float64.mul (Float64.neg (Float64.neg (Float64.sub mu2 p1))) (Float64.ofInt b))) p0) p0)) (Float64.ofInt (-(a * a + b * b)))) p0) v1) (.float (Float64.div (PySem.Builtin.Math.vectorNorm [Float64.abs (Float64.mul sg (Float64.abs (Float64.ofInt a))), Float64.abs (Float64.mul sg2 (Float64.abs (Float64.ofInt b)))]) (Float64.abs (Float64.ofInt (-(a * a + b * b))))) v2)) :: (d1, dictOf [] 0) :: news) → Q (.ref l) { s with heap := h', toks := tk }) :
    (K1 w.params).In h₀ → wpAny (model PySem.Challenge.rw_oz0057_01.row.prog w) (AA d env outer gs u) (call (.ref 295) [.int a ta, .int b tb, .bool true, .ref pl, .ref ql] []) Q E s := by
  k_fill
  intro X₀
  refine wpAny_call ?_
  refine' code_def (K := (K1 w.params)) B ?k2 ?k3 ?k4 T ?kA hf hke ?k6 ?k7 ?k8 ?k9 ?kB ?_ ?c2 ?c3 ?c4 ?c5
  case kA => exact rfl
  case k2 => k_asm
  case k3 => k_asm
  case k4 => k_asm
  case k6 => k_is
  case k7 => k_is
  case k8 => (show d < _; omega)
  case k9 => first | exact BindsTo.of_eq rfl | exact binds_K (by k_in) rfl (by k_is) rfl rfl rfl
  case kB => exact locs rfl
  case c5 => decide
  case c2 => exact rfl
  case c3 => exact rfl
  case c4 => exact rfl
  intro g' L' h' FG' F' N' B' X' T'
  dsimp only
  try k_fold
  k_steps
  rename News _ _ _ _ => kN
  refine' h _ _ _ _ _ _ _ _ _ _ _ ?p0 ?p1 ?p2 ?p3 ?p4 ?fa (news_sub kN ?fb)
  case fa => assumption
  case fb => lcg_sub
  case p0 => first | assumption | exact Nat.zero_lt_succ _ | (simp only [List.length_cons, List.length_nil]; exact Nat.zero_lt_succ _) | omega
  case p1 => first | assumption | exact Nat.zero_lt_succ _ | (simp only [List.length_cons, List.length_nil]; exact Nat.zero_lt_succ _) | omega
  case p2 => first | assumption | exact Nat.zero_lt_succ _ | (simp only [List.length_cons, List.length_nil]; exact Nat.zero_lt_succ _) | omega
  case p3 => first | assumption | exact Nat.zero_lt_succ _ | (simp only [List.length_cons, List.length_nil]; exact Nat.zero_lt_succ _) | omega
  case p4 => first | assumption | exact Nat.zero_lt_succ _ | (simp only [List.length_cons, List.length_nil]; exact Nat.zero_lt_succ _) | omega

set_option maxRecDepth 100000 in
set_option maxHeartbeats 8000000 in
theorem back_f {pl ql : Addr} {p0 p1 : UInt64} {u0 u1 : Tok} {a b : Int} {ta tb : Tok}
    (B : Below A₀ base outer h₀) (F : Fr h₀ L s.heap m) (N : News h₀ L s.heap news) (T : Top p loose mean mg mb h₀)
    (hf : env.frame = some L) (hke : env.scope.kind = .function) (hroom : d + 60 < recursionLimit)
    (hp : (pl, W.listOf #[Value.ref x, Value.ref y] 0) ∈ news) (hq : (ql, W.listOf #[Value.float p0 u0, Value.float p1 u1] 0) ∈ news) (hx : (x, ndO dx (.float mu t1) (.float sg t2)) ∈ news) (hdx : (dx, dictOf [] 0) ∈ news) (hy : (y, ndO dy (.float mu2 t3) (.float sg2 t4)) ∈ news) (hdy : (dy, dictOf [] 0) ∈ news) (hp2 : 0 < t2) (hp4 : 0 < t4) (ha : a.natAbs < 2 ^ 63) (hb : b.natAbs < 2 ^ 63) (hk : Int.natAbs (-(a * a + b * b)) < 2 ^ 63) (hk0 : (-(a * a + b * b)) ≠ 0) (n0 : NN sg) (n0b : NN sg2) (n1 : NN (PySem.Builtin.Math.vectorNorm [Float64.abs (Float64.mul sg (Float64.abs (Float64.ofInt a))), Float64.abs (Float64.mul sg2 (Float64.abs (Float64.ofInt (-b))))])) (n2 : NN (PySem.Builtin.Math.vectorNorm [Float64.abs (Float64.mul sg (Float64.abs (Float64.ofInt (-b)))), Float64.abs (Float64.mul sg2 (Float64.abs (Float64.ofInt a)))]))
    (h : ∀ (l x1 d1 x2 d2 : Addr) h' tk v1 v2 v3 v4, 0 < tk → 0 < v1 → 0 < v2 → 0 < v3 → 0 < v4 → Fr h₀ L h' m → News h₀ L h' ((l, W.listOf #[Value.ref x1, Value.ref x2] 0) :: (x2, ndO d2 (.float (Float64.neg (Float64.sub (Float64.div (Float64.sub (Float64.add (Float64.add (Float64.mul (Float64.sub mu p0) (Float64.ofInt (-b))) (Float64.mul (Float64.neg (Float64.neg (Float64.sub mu2 p1))) (Float64.ofInt a))) p1) p1) (Float64.ofInt (-(a * a + b * b)))) p1)) v3) (.float (Float64.div (PySem.Builtin.Math.vectorNorm [Float64.abs (Float64.mul sg (Float64.abs (Float64.ofInt (-b)))), Float64.abs (Float64.mul sg2 (Float64.abs (Float64.ofInt a)))]) (Float64.abs (Float64.ofInt (-(a * a + b * b))))) v4)) :: (d2, dictOf [] 0) :: (x1, ndO d1 (.float (Float64.add (Float64.div (Float64.neg (Float64.sub (Float64.add (Float64.sub (Float64.mul (Float64.sub mu p0) (Float64.ofInt a)) (Float64.mul (Float64.neg (Float64.neg (Float64.sub mu2 p1))) (Float64.ofInt (-b)))) p0) p0)) (Float64.ofInt (-(a * a + b * b)))) p0) v1) (.float (Float64.div (PySem.Builtin.Math.vectorNorm [Float64.abs (Float64.mul sg (Float64.abs (Float64.ofInt a))), Float64.abs (Float64.mul sg2 (Float64.abs (Float64.ofInt (-b))))]) (Float64.abs (Float64.ofInt (-(a * a + b * b))))) v2)) :: (d1, dictOf [] 0) :: news) → Q (.ref l) { s with heap := h', toks := tk }) :
    (K1 w.params).In h₀ → wpAny (model PySem.Challenge.rw_oz0057_01.row.prog w) (AA d env outer gs u) (call (.ref 295) [.int a ta, .int b tb, .bool false, .ref pl, .ref ql] []) Q E s := by
  k_fill
  intro X₀
  refine wpAny_call ?_
  refine' code_def (K := (K1 w.params)) B ?k2 ?k3 ?k4 T ?kA hf hke ?k6 ?k7 ?k8 ?k9 ?kB ?_ ?c2 ?c3 ?c4 ?c5
  case kA => exact rfl
  case k2 => k_asm
  case k3 => k_asm
  case k4 => k_asm
  case k6 => k_is
  case k7 => k_is
  case k8 => (show d < _; omega)
  case k9 => first | exact BindsTo.of_eq rfl | exact binds_K (by k_in) rfl (by k_is) rfl rfl rfl
  case kB => exact locs rfl
  case c5 => decide
  case c2 => exact rfl
  case c3 => exact rfl
  case c4 => exact rfl
  intro g' L' h' FG' F' N' B' X' T'
  dsimp only
  try k_fold
  k_steps
  rename News _ _ _ _ => kN
  refine' h _ _ _ _ _ _ _ _ _ _ _ ?p0 ?p1 ?p2 ?p3 ?p4 ?fa (news_sub kN ?fb)
  case fa => assumption
  case fb => lcg_sub
  case p0 => first | assumption | exact Nat.zero_lt_succ _ | (simp only [List.length_cons, List.length_nil]; exact Nat.zero_lt_succ _) | omega
  case p1 => first | assumption | exact Nat.zero_lt_succ _ | (simp only [List.length_cons, List.length_nil]; exact Nat.zero_lt_succ _) | omega
  case p2 => first | assumption | exact Nat.zero_lt_succ _ | (simp only [List.length_cons, List.length_nil]; exact Nat.zero_lt_succ _) | omega
  case p3 => first | assumption | exact Nat.zero_lt_succ _ | (simp only [List.length_cons, List.length_nil]; exact Nat.zero_lt_succ _) | omega
  case p4 => first | assumption | exact Nat.zero_lt_succ _ | (simp only [List.length_cons, List.length_nil]; exact Nat.zero_lt_succ _) | omega

end
end Mine


end HP1
section HP1D
open PySem PySem.W PySem.Calls PyProof.Rows
set_option Elab.async false
set_option linter.unusedVariables false
namespace Mine
section
variable {w : World} {A₀ : Around} {E : Value → Shared → Prop} {s : Shared} {L : Addr} {h₀ base : Heap} {m mg mb : Str → Option Value} {news : List (Addr × Obj)} {mean : ExcName → Option Value} {env : Env} {outer : List Env} {Q : Value → Shared → Prop}
  {p : Program} {loose : List Str} {d u : Nat} {gs : Option (List Code)} {mu sg mu2 sg2 : UInt64} {t1 t2 t3 t4 : Tok} {x dx y dy : Addr}
theorem nn_dy {x : UInt64} {n : Int} {k : Nat} (h : Dy x n k) (h0 : 0 ≤ n) : NN x := nn_fv h (Int.mul_nonneg h0 (Int.le_of_lt (pow_pos_int k)))
theorem turnD {pl ql : Addr} {p0 p1 : UInt64} {u0 u1 : Tok} {a b : Int} {ta tb : Tok} {fl : Bool} {X Y P0 P1 S f : Int} (B : Below A₀ base outer h₀) (F : Fr h₀ L s.heap m) (N : News h₀ L s.heap news) (T : Top p loose mean mg mb h₀)
    (hf : env.frame = some L) (hke : env.scope.kind = .function) (hroom : d + 40 < recursionLimit)
    (hp : (pl, W.listOf #[Value.ref x, Value.ref y] 0) ∈ news) (hq : (ql, W.listOf #[Value.float p0 u0, Value.float p1 u1] 0) ∈ news) (hx : (x, ndO dx (.float mu t1) (.float sg t2)) ∈ news) (hdx : (dx, dictOf [] 0) ∈ news) (hy : (y, ndO dy (.float mu2 t3) (.float sg2 t4)) ∈ news) (hdy : (dy, dictOf [] 0) ∈ news) (hp2 : 0 < t2) (hp4 : 0 < t4)
    (h1 : Dy mu (P0 + X) 1071) (h2 : Dy sg S 1071) (h3 : Dy mu2 (P1 + Y) 1071) (h4 : Dy sg2 S 1071) (q0 : Dy p0 P0 1071) (q1 : Dy p1 P1 1071)
    (hb : (X.natAbs ≤ 2 ^ 36 ∧ Y.natAbs ≤ 2 ^ 36 ∧ a.natAbs ≤ 2 ^ 14 ∧ b.natAbs ≤ 2 ^ 14) ∧ (P0.natAbs ≤ 2 ^ 20 ∧ P1.natAbs ≤ 2 ^ 20 ∧ 0 ≤ S ∧ S ≤ 2 ^ 20) ∧ 0 ≤ f ∧ a * a + b * b = f * f)
    (h : ∀ (l x1 d1 x2 d2 : Addr) h' tk M1 S1 M2 S2 v1 v2 v3 v4, 0 < tk → 0 < v1 → 0 < v2 → 0 < v3 → 0 < v4 → Dy M1 (P0 + RX fl a b X Y) 1071 → Dy S1 (f * S) 1071 → Dy M2 (P1 + RY fl a b X Y) 1071 → Dy S2 (f * S) 1071 → Fr h₀ L h' m →
      News h₀ L h' ((l, W.listOf #[Value.ref x1, Value.ref x2] 0) :: (x2, ndO d2 (.float M2 v3) (.float S2 v4)) :: (d2, dictOf [] 0) :: (x1, ndO d1 (.float M1 v1) (.float S1 v2)) :: (d1, dictOf [] 0) :: news) → Q (.ref l) { s with heap := h', toks := tk }) :
    (K1 w.params).In h₀ → wpAny (model PySem.Challenge.rw_oz0057_01.row.prog w) (AA d env outer gs u) (call (.ref 288) [.int a ta, .int b tb, .bool fl, .ref pl, .ref ql] []) Q E s := by
  obtain ⟨⟨bX, bY, ba, bb⟩, ⟨bp0, bp1, s0, s1⟩, f0, hff⟩ := hb
  have r1 := turn_spread h2 h4 s0 s1 ba bb f0 hff
  have r2 := turn_spread h2 h4 s0 s1 bb ba f0 (by rw [Int.add_comm]; exact hff)
  obtain ⟨m1, m2, m3, m4⟩ := turn_mean (a := a) (b := b) fl h1 h3 q0 q1 bX bY ba bb bp0 bp1
  have fs := Int.mul_nonneg f0 s0
  cases fl
  · exact turned_f B F N T hf hke hroom hp hq hx hdx hy hdy hp2 hp4 (by omega) (by omega) (nn_dy h2 s0) (nn_dy h4 s0) (nn_dy r1 fs) (nn_dy r2 fs) fun l x1 d1 x2 d2 h' tk v1 v2 v3 v4 k0 k1 k2 k3 k4 F' N' => h l x1 d1 x2 d2 h' tk _ _ _ _ v1 v2 v3 v4 k0 k1 k2 k3 k4 m3 r1 m4 r2 F' N'
  · exact turned_t B F N T hf hke hroom hp hq hx hdx hy hdy hp2 hp4 (by omega) (by omega) (nn_dy h2 s0) (nn_dy h4 s0) (nn_dy r1 fs) (nn_dy r2 fs) fun l x1 d1 x2 d2 h' tk v1 v2 v3 v4 k0 k1 k2 k3 k4 F' N' => h l x1 d1 x2 d2 h' tk _ _ _ _ v1 v2 v3 v4 k0 k1 k2 k3 k4 m1 r1 m2 r2 F' N'
theorem sq_bnd {a b f : Int} (h0 : 0 < f) (hf : f ≤ 2 ^ 14) (h : a * a + b * b = f * f) : 0 < a * a + b * b ∧ a * a + b * b ≤ 2 ^ 28 := by
  have h1 : 0 < f * f := Int.mul_pos h0 h0
  have h2 : f * f ≤ 2 ^ 14 * 2 ^ 14 := Int.mul_le_mul hf hf (Int.le_of_lt h0) (by decide)
  omega
theorem backD {pl ql : Addr} {p0 p1 : UInt64} {u0 u1 : Tok} {a b : Int} {ta tb : Tok} {fl : Bool} {X Y P0 P1 S f : Int} (B : Below A₀ base outer h₀) (F : Fr h₀ L s.heap m) (N : News h₀ L s.heap news) (T : Top p loose mean mg mb h₀)
    (hf : env.frame = some L) (hke : env.scope.kind = .function) (hroom : d + 60 < recursionLimit)
    (hp : (pl, W.listOf #[Value.ref x, Value.ref y] 0) ∈ news) (hq : (ql, W.listOf #[Value.float p0 u0, Value.float p1 u1] 0) ∈ news) (hx : (x, ndO dx (.float mu t1) (.float sg t2)) ∈ news) (hdx : (dx, dictOf [] 0) ∈ news) (hy : (y, ndO dy (.float mu2 t3) (.float sg2 t4)) ∈ news) (hdy : (dy, dictOf [] 0) ∈ news) (hp2 : 0 < t2) (hp4 : 0 < t4)
    (h1 : Dy mu (P0 + RX fl a b X Y) 1071) (h2 : Dy sg (f * S) 1071) (h3 : Dy mu2 (P1 + RY fl a b X Y) 1071) (h4 : Dy sg2 (f * S) 1071) (q0 : Dy p0 P0 1071) (q1 : Dy p1 P1 1071)
    (hb : ((RX fl a b X Y).natAbs ≤ 2 ^ 36 ∧ (RY fl a b X Y).natAbs ≤ 2 ^ 36 ∧ a.natAbs ≤ 2 ^ 14 ∧ b.natAbs ≤ 2 ^ 14) ∧ (P0.natAbs ≤ 2 ^ 20 ∧ P1.natAbs ≤ 2 ^ 20 ∧ 0 ≤ S ∧ f * S ≤ 2 ^ 20) ∧ (0 < f ∧ f ≤ 2 ^ 14 ∧ a * a + b * b = f * f) ∧ X.natAbs ≤ 2 ^ 21 ∧ Y.natAbs ≤ 2 ^ 21 ∧ S ≤ 2 ^ 20)
    (h : ∀ (l x1 d1 x2 d2 : Addr) h' tk M1 S1 M2 S2 v1 v2 v3 v4, 0 < tk → 0 < v1 → 0 < v2 → 0 < v3 → 0 < v4 → Dy M1 (P0 + X) 1071 → Dy S1 S 1071 → Dy M2 (P1 + Y) 1071 → Dy S2 S 1071 → Fr h₀ L h' m →
      News h₀ L h' ((l, W.listOf #[Value.ref x1, Value.ref x2] 0) :: (x2, ndO d2 (.float M2 v3) (.float S2 v4)) :: (d2, dictOf [] 0) :: (x1, ndO d1 (.float M1 v1) (.float S1 v2)) :: (d1, dictOf [] 0) :: news) → Q (.ref l) { s with heap := h', toks := tk }) :
    (K1 w.params).In h₀ → wpAny (model PySem.Challenge.rw_oz0057_01.row.prog w) (AA d env outer gs u) (call (.ref 295) [.int a ta, .int b tb, .bool fl, .ref pl, .ref ql] []) Q E s := by
  obtain ⟨⟨bX, bY, ba, bb⟩, ⟨bp0, bp1, s0, s1⟩, ⟨f0, f1, hff⟩, bX0, bY0, s2⟩ := hb
  have f0' : 0 ≤ f := Int.le_of_lt f0
  have fs := Int.mul_nonneg f0' s0
  obtain ⟨sq0, sq1⟩ := sq_bnd f0 f1 hff
  have e3 : f * (f * S) = (a * a + b * b) * S := by rw [hff, Int.mul_assoc]
  have ffs := Int.mul_nonneg f0' fs
  obtain ⟨eX, eY⟩ := back_xy fl a b X Y
  cases fl
  · simp only [Bool.false_eq_true, if_false] at eX eY
    have nb : (-b).natAbs ≤ 2 ^ 14 := by omega
    have hff' : a * a + -b * -b = f * f := by rw [Int.neg_mul_neg]; exact hff
    have r1 := turn_spread h2 h4 fs s1 ba nb f0' hff'
    have r2 := turn_spread h2 h4 fs s1 nb ba f0' (by rw [Int.add_comm]; exact hff')
    obtain ⟨m1, m2, m3, m4⟩ := turn_mean (a := a) (b := -b) false h1 h3 q0 q1 bX bY ba nb bp0 bp1
    rw [eX] at m3
    rw [eY] at m4
    have r1' := r1
    have r2' := r2
    rw [e3] at r1' r2'
    obtain ⟨g1, g2, g3, g4⟩ := back_fin m3 m4 r1' r2' q0 q1 sq0 sq1 bX0 bY0 s0 s2 bp0 bp1
    exact back_f B F N T hf hke hroom hp hq hx hdx hy hdy hp2 hp4 (by omega) (by omega) (by omega) (by omega) (nn_dy h2 fs) (nn_dy h4 fs) (nn_dy r1 ffs) (nn_dy r2 ffs) fun l x1 d1 x2 d2 h' tk v1 v2 v3 v4 k0 k1 k2 k3 k4 F' N' => h l x1 d1 x2 d2 h' tk _ _ _ _ v1 v2 v3 v4 k0 k1 k2 k3 k4 g1 g2 g3 g4 F' N'
  · simp only [if_true] at eX eY
    have r1 := turn_spread h2 h4 fs s1 ba bb f0' hff
    have r2 := turn_spread h2 h4 fs s1 bb ba f0' (by rw [Int.add_comm]; exact hff)
    obtain ⟨m1, m2, m3, m4⟩ := turn_mean (a := a) (b := b) true h1 h3 q0 q1 bX bY ba bb bp0 bp1
    rw [eX] at m1
    rw [eY] at m2
    have r1' := r1
    have r2' := r2
    rw [e3] at r1' r2'
    obtain ⟨g1, g2, g3, g4⟩ := back_fin m1 m2 r1' r2' q0 q1 sq0 sq1 bX0 bY0 s0 s2 bp0 bp1
    exact back_t B F N T hf hke hroom hp hq hx hdx hy hdy hp2 hp4 (by omega) (by omega) (by omega) (by omega) (nn_dy h2 fs) (nn_dy h4 fs) (nn_dy r1 ffs) (nn_dy r2 ffs) fun l x1 d1 x2 d2 h' tk v1 v2 v3 v4 k0 k1 k2 k3 k4 F' N' => h l x1 d1 x2 d2 h' tk _ _ _ _ v1 v2 v3 v4 k0 k1 k2 k3 k4 g1 g2 g3 g4 F' N'
end
end Mine

end HP1D
section TH
open PySem PySem.W PySem.Calls PyProof.Rows
open PySem.Builtin.Math
set_option linter.unusedVariables false
set_option exponentiation.threshold 3000
namespace Mine
theorem nn_gen {A B : UInt64} {n1 n2 : Int} {k : Nat} (hA : Dy A n1 k) (hB : Dy B n2 k) (h1 : n1.natAbs < 2 ^ 120) (h2 : n2.natAbs < 2 ^ 120) (hk1 : 102 ≤ k) (hk2 : k ≤ 1900) : NN (vectorNorm [Float64.abs A, Float64.abs B]) := by
  obtain ⟨R, hR, _⟩ := norm_gen hA hB h1 h2 hk1 hk2
  exact nn_fv hR (by omega)
def TG (s1 s3 : UInt64) (a b : Int) (u1 u2 : UInt64) : Prop := u1 = vectorNorm [Float64.abs (si s1 a), Float64.abs (si s3 b)] ∧ u2 = vectorNorm [Float64.abs (si s1 b), Float64.abs (si s3 a)]
theorem tg_nn {s1 s3 u1 u2 : UInt64} {a b S1 S3 : Int} (h : TG s1 s3 a b u1 u2) (h1 : Dy s1 S1 1071) (h3 : Dy s3 S3 1071) (b1 : 0 ≤ S1 ∧ S1 ≤ 64) (b3 : 0 ≤ S3 ∧ S3 ≤ 64) (ba : -9 ≤ a ∧ a ≤ 9) (bb : -12 ≤ b ∧ b ≤ 12) : NN u1 ∧ NN u2 := by
  have e : ∀ {x w : Int}, (0 ≤ x ∧ x ≤ 64) → (-12 ≤ w ∧ w ≤ 12) → (x * (w.natAbs : Int)).natAbs < 2 ^ 120 := by
    intro x w hx hw
    have := mul_bnd (x := x) (y := (w.natAbs : Int)) (A := 64) (B := 12) (C := 1000) (by omega) (by omega) (by decide)
    exact Nat.lt_of_le_of_lt this (by decide)
  obtain ⟨rfl, rfl⟩ := h
  exact ⟨nn_gen (dy_si h1 (by omega) (by omega)) (dy_si h3 (by omega) (by omega)) (e b1 (by omega)) (e b3 bb) (by decide) (by decide), nn_gen (dy_si h1 (by omega) (by omega)) (dy_si h3 (by omega) (by omega)) (e b1 bb) (e b3 (by omega)) (by decide) (by decide)⟩
theorem sq_diff {n m : Int} (h1 : (n - m).natAbs ≤ 2 ^ 32) (h2 : (n + m).natAbs ≤ 2 ^ 88) : (n * n - m * m).natAbs ≤ 2 ^ 120 := by
  have e : n * n - m * m = (n - m) * (n + m) := by
    rw [Int.sub_mul, Int.mul_add, Int.mul_add, Int.mul_comm m n]; omega
  rw [e]
  exact mul_bnd h1 h2 (by decide)
theorem norm_aux {R N K Y : Nat} (hK : K = 2 ^ 71 * Y) (q1 : R * R * 2 ^ 37 ≤ N * (K * K) * (2 ^ 37 + 1)) (q2 : N * (K * K) * 137438953471 ≤ R * R * 2 ^ 37) (h0 : 0 < N) (hY : 0 < Y) :
    2 ^ 52 * Y ≤ R ∧ ∀ r, R = r * Y → r * r * 2 ^ 37 ≤ N * 2 ^ 142 * (2 ^ 37 + 1) ∧ N * 2 ^ 142 * 137438953471 ≤ r * r * 2 ^ 37 := by
  have hz := Nat.mul_pos hY hY
  have e2 : K * K = 2 ^ 142 * (Y * Y) := by
    have : (2 : Nat) ^ 142 = 2 ^ 71 * 2 ^ 71 := by decide
    rw [hK, this]; ac_rfl
  rw [e2] at q1 q2
  constructor
  · rcases Nat.lt_or_ge R (2 ^ 52 * Y) with h | h
    · exfalso
      have h3 := sq_mul_le (Nat.le_of_lt h)
      have e3 : 2 ^ 52 * Y * (2 ^ 52 * Y) = 2 ^ 104 * (Y * Y) := by
        have : (2 : Nat) ^ 104 = 2 ^ 52 * 2 ^ 52 := by decide
        rw [this]; ac_rfl
      rw [e3] at h3
      generalize Y * Y = Z at *
      have h4 : 2 ^ 142 * Z ≤ N * (2 ^ 142 * Z) := Nat.le_mul_of_pos_left _ h0
      generalize N * (2 ^ 142 * Z) = NZ at *
      omega
    · exact h
  · rintro r rfl
    have e4 : r * Y * (r * Y) = r * r * (Y * Y) := by ac_rfl
    rw [e4] at q1 q2
    generalize Y * Y = Z at *
    constructor
    · refine Nat.le_of_mul_le_mul_right (c := Z) ?_ hz
      calc r * r * 2 ^ 37 * Z = r * r * Z * 2 ^ 37 := by ac_rfl
        _ ≤ _ := q1
        _ = _ := by ac_rfl
    · refine Nat.le_of_mul_le_mul_right (c := Z) ?_ hz
      calc N * 2 ^ 142 * 137438953471 * Z = N * (2 ^ 142 * Z) * 137438953471 := by ac_rfl
        _ ≤ _ := q2
        _ = _ := by ac_rfl
/-- the norm of two small multiples of an eighth, in units 2^-74 -/
theorem norm_dy {A B : UInt64} {n1 n2 : Int} (hA : Dy A n1 1071) (hB : Dy B n2 1071) (h1 : n1.natAbs ≤ 2 ^ 20) (h2 : n2.natAbs ≤ 2 ^ 20) (h0 : 0 < n1.natAbs * n1.natAbs + n2.natAbs * n2.natAbs) :
    ∃ r : Nat, Dy (vectorNorm [Float64.abs A, Float64.abs B]) (r : Int) 1000 ∧ r * r * 2 ^ 37 ≤ (n1.natAbs * n1.natAbs + n2.natAbs * n2.natAbs) * 2 ^ 142 * (2 ^ 37 + 1) ∧ (n1.natAbs * n1.natAbs + n2.natAbs * n2.natAbs) * 2 ^ 142 * 137438953471 ≤ r * r * 2 ^ 37 := by
  obtain ⟨R, hR, q1, q2⟩ := norm_gen hA hB (by omega) (by omega) (by decide) (by decide)
  obtain ⟨hR0, hr⟩ := norm_aux (Y := 2 ^ 1000) (pow_cat (a := 71) (b := 1000) (c := 1071) rfl).symm q1 q2 h0 (Nat.two_pow_pos _)
  obtain ⟨t, ht⟩ := fv_lat (J := 1000) hR (by rw [Int.natAbs_natCast, Nat.pow_add]; exact hR0)
  have ht0 : 0 ≤ t := by
    rcases Int.lt_or_le t 0 with h | h
    · have := Int.mul_neg_of_neg_of_pos h (pow_pos_int 1000)
      omega
    · exact h
  obtain ⟨r, rfl⟩ := Int.eq_ofNat_of_zero_le ht0
  have hr2 : R = r * 2 ^ 1000 := by
    have e3 : ((2 : Int) ^ 1000) = ((2 ^ 1000 : Nat) : Int) := by simp
    rw [e3, ← Int.natCast_mul] at ht
    exact Int.ofNat_inj.mp ht
  exact ⟨r, by rw [ht] at hR; exact hR, hr r hr2⟩
/-- a multiple, rounded -/
theorem si_dy {u : UInt64} {r : Nat} {a : Int} (hu : Dy u (r : Int) 1000) (hr : r ≤ 2 ^ 82) (ha : a.natAbs ≤ 12) : ∃ n : Int, Dy (si u a) n 1000 ∧ (n * n - ((r * r * (a.natAbs * a.natAbs) : Nat) : Int)).natAbs ≤ 2 ^ 120 ∧ n.natAbs ≤ 2 ^ 87 := by
  have hw : Dy (Float64.abs (Float64.ofInt a)) (a.natAbs : Int) 1074 := dy_abs (dy_ofInt (by omega))
  have hm : r * a.natAbs ≤ 2 ^ 86 := Nat.le_trans (Nat.mul_le_mul hr ha) (by decide)
  obtain ⟨n, hn, _, en, en'⟩ := rd_dl (k := 1000) (r := 33) hu hw rfl (by rw [← Int.natCast_mul, Int.natAbs_natCast]; omega) (by decide) (by decide)
  rw [← Int.natCast_mul] at en en'
  have e : ((r * r * (a.natAbs * a.natAbs) : Nat) : Int) = ((r * a.natAbs : Nat) : Int) * ((r * a.natAbs : Nat) : Int) := by
    rw [← Int.natCast_mul]; congr 1; ac_rfl
  refine ⟨n, hn, ?_, by omega⟩
  rw [e]
  have hn1 : (n - ((r * a.natAbs : Nat) : Int)).natAbs ≤ 2 ^ 32 := by omega
  exact sq_diff hn1 (by omega)
theorem r_bnd {r N : Nat} (h : r * r * 2 ^ 37 ≤ N * 2 ^ 142 * (2 ^ 37 + 1)) (hN : N ≤ 2 ^ 21) : r ≤ 2 ^ 82 := by
  rcases Nat.lt_or_ge r (2 ^ 82) with h1 | h1
  · exact Nat.le_of_lt h1
  · exfalso
    have := sq_mul_le h1
    generalize r * r = rr at *
    omega
theorem num_end {P q W M Z RR : Nat} (hZ : 0 < Z) (w1 : W * 2 ^ 37 ≤ P * 2 ^ 142 * (2 ^ 37 + 1)) (w2 : P * 2 ^ 142 * 137438953471 ≤ W * 2 ^ 37) (m1 : M ≤ W + 2 ^ 121) (m2 : W ≤ M + 2 ^ 121)
    (r1 : RR * 2 ^ 37 ≤ M * Z * (2 ^ 37 + 1)) (r2 : M * Z * 137438953471 ≤ RR * 2 ^ 37) (k1 : RR ≤ (q * 2 ^ 142 + 2 ^ 131) * Z) (k2 : q * 2 ^ 142 * Z ≤ RR + 2 ^ 131 * Z) (hP : P ≤ 2 ^ 29) (hq : q ≤ 2 ^ 29) : P = q := by
  have a1 : M * 137438953471 ≤ (q * 2 ^ 142 + 2 ^ 131) * 2 ^ 37 := by
    refine Nat.le_of_mul_le_mul_right (c := Z) ?_ hZ
    calc M * 137438953471 * Z = M * Z * 137438953471 := by ac_rfl
      _ ≤ RR * 2 ^ 37 := r2
      _ ≤ (q * 2 ^ 142 + 2 ^ 131) * Z * 2 ^ 37 := Nat.mul_le_mul_right _ k1
      _ = _ := by ac_rfl
  have a2 : q * 2 ^ 142 * 2 ^ 37 ≤ M * (2 ^ 37 + 1) + 2 ^ 131 * 2 ^ 37 := by
    refine Nat.le_of_mul_le_mul_right (c := Z) ?_ hZ
    calc q * 2 ^ 142 * 2 ^ 37 * Z = q * 2 ^ 142 * Z * 2 ^ 37 := by ac_rfl
      _ ≤ (RR + 2 ^ 131 * Z) * 2 ^ 37 := Nat.mul_le_mul_right _ k2
      _ = RR * 2 ^ 37 + 2 ^ 131 * Z * 2 ^ 37 := Nat.add_mul _ _ _
      _ ≤ M * Z * (2 ^ 37 + 1) + 2 ^ 131 * Z * 2 ^ 37 := Nat.add_le_add_right r1 _
      _ = (M * (2 ^ 37 + 1) + 2 ^ 131 * 2 ^ 37) * Z := by rw [Nat.add_mul]; congr 1 <;> ac_rfl
  omega
theorem sq_add (d f : Nat) : (d + f) * (d + f) = d * d + 2 * f * d + f * f := by
  rw [Nat.add_mul, Nat.mul_add, Nat.mul_add, Nat.mul_assoc, Nat.mul_comm f d]; omega
theorem sq_around {R m Y : Nat} (h1 : R ≤ m * Y + 2 ^ 44 * Y) (h2 : m * Y ≤ R + 2 ^ 44 * Y) (hm : m ≤ 2 ^ 85) : R * R ≤ (m * m + 2 ^ 131) * (Y * Y) ∧ m * m * (Y * Y) ≤ R * R + 2 ^ 131 * (Y * Y) := by
  have g1 : R ≤ (m + 2 ^ 44) * Y := by rw [Nat.add_mul]; exact h1
  have s1 := sq_mul_le g1
  have e1 : (m + 2 ^ 44) * Y * ((m + 2 ^ 44) * Y) = (m * m + 2 ^ 45 * m + 2 ^ 88) * (Y * Y) := by
    have : (m + 2 ^ 44) * (m + 2 ^ 44) = m * m + 2 ^ 45 * m + 2 ^ 88 := by
      rw [Nat.add_mul, Nat.mul_add, Nat.mul_add]
      generalize m * m = mm at *
      omega
    rw [← this]; ac_rfl
  rw [e1] at s1
  have hle : m * m + 2 ^ 45 * m + 2 ^ 88 ≤ m * m + 2 ^ 131 := by
    generalize m * m = mm at *
    omega
  refine ⟨Nat.le_trans s1 (Nat.mul_le_mul_right _ hle), ?_⟩
  by_cases h44 : m ≤ 2 ^ 44
  · have hs := sq_mul_le h44
    have hs2 : m * m ≤ 2 ^ 131 := Nat.le_trans hs (by decide)
    exact Nat.le_trans (Nat.mul_le_mul_right _ hs2) (Nat.le_add_left _ _)
  · obtain ⟨d, rfl⟩ : ∃ d, m = d + 2 ^ 44 := ⟨m - 2 ^ 44, by omega⟩
    have g3 : d * Y ≤ R := by
      rw [Nat.add_mul] at h2
      exact Nat.le_of_add_le_add_right h2
    have s2 := sq_mul_le g3
    have e2 : d * Y * (d * Y) = d * d * (Y * Y) := by ac_rfl
    rw [e2] at s2
    have e3 : (d + 2 ^ 44) * (d + 2 ^ 44) ≤ d * d + 2 ^ 131 := by
      rw [sq_add, Nat.add_assoc]
      exact Nat.add_le_add_left (by omega) _
    calc (d + 2 ^ 44) * (d + 2 ^ 44) * (Y * Y) ≤ (d * d + 2 ^ 131) * (Y * Y) := Nat.mul_le_mul_right _ e3
      _ = d * d * (Y * Y) + 2 ^ 131 * (Y * Y) := Nat.add_mul _ _ _
      _ ≤ _ := Nat.add_le_add_right s2 _
theorem sz_sq {a b sz : Int} (h : a * a + b * b = sz * sz) : (sz * sz).natAbs = a.natAbs * a.natAbs + b.natAbs * b.natAbs := by
  rw [← h]
  have e1 := Int.natAbs_mul_self' a
  have e2 := Int.natAbs_mul_self' b
  omega
theorem small_sq {a : Int} {A B : Nat} (h : a.natAbs ≤ A) (h2 : A * A ≤ B) : a.natAbs * a.natAbs ≤ B := Nat.le_trans (sq_mul_le h) h2
theorem th_lin1 {A B x y : Nat} (h1 : x * 2 ^ 37 ≤ A * 2 ^ 142 * (2 ^ 37 + 1)) (h2 : y * 2 ^ 37 ≤ B * 2 ^ 142 * (2 ^ 37 + 1)) : (x + y) * 2 ^ 37 ≤ (A + B) * 2 ^ 142 * (2 ^ 37 + 1) := by
  rw [Nat.add_mul x, Nat.add_mul A, Nat.add_mul (A * 2 ^ 142)]; exact Nat.add_le_add h1 h2
theorem th_lin2 {A B x y : Nat} (h1 : A * 2 ^ 142 * 137438953471 ≤ x * 2 ^ 37) (h2 : B * 2 ^ 142 * 137438953471 ≤ y * 2 ^ 37) : (A + B) * 2 ^ 142 * 137438953471 ≤ (x + y) * 2 ^ 37 := by
  rw [Nat.add_mul x, Nat.add_mul A, Nat.add_mul (A * 2 ^ 142)]; exact Nat.add_le_add h1 h2
theorem th_W {α β N1 N2 x1 x2 : Nat} (p1 : x1 * 2 ^ 37 ≤ N1 * 2 ^ 142 * (2 ^ 37 + 1)) (p2 : N1 * 2 ^ 142 * 137438953471 ≤ x1 * 2 ^ 37) (p3 : x2 * 2 ^ 37 ≤ N2 * 2 ^ 142 * (2 ^ 37 + 1)) (p4 : N2 * 2 ^ 142 * 137438953471 ≤ x2 * 2 ^ 37) :
    (x1 * α + x2 * β) * 2 ^ 37 ≤ (α * N1 + β * N2) * 2 ^ 142 * (2 ^ 37 + 1) ∧ (α * N1 + β * N2) * 2 ^ 142 * 137438953471 ≤ (x1 * α + x2 * β) * 2 ^ 37 := by
  have f1 : x1 * α * 2 ^ 37 ≤ α * N1 * 2 ^ 142 * (2 ^ 37 + 1) := by
    have := Nat.mul_le_mul_left α p1
    rwa [show α * (x1 * 2 ^ 37) = x1 * α * 2 ^ 37 by ac_rfl, show α * (N1 * 2 ^ 142 * (2 ^ 37 + 1)) = α * N1 * 2 ^ 142 * (2 ^ 37 + 1) by ac_rfl] at this
  have f2 : α * N1 * 2 ^ 142 * 137438953471 ≤ x1 * α * 2 ^ 37 := by
    have := Nat.mul_le_mul_left α p2
    rwa [show α * (x1 * 2 ^ 37) = x1 * α * 2 ^ 37 by ac_rfl, show α * (N1 * 2 ^ 142 * 137438953471) = α * N1 * 2 ^ 142 * 137438953471 by ac_rfl] at this
  have f3 : x2 * β * 2 ^ 37 ≤ β * N2 * 2 ^ 142 * (2 ^ 37 + 1) := by
    have := Nat.mul_le_mul_left β p3
    rwa [show β * (x2 * 2 ^ 37) = x2 * β * 2 ^ 37 by ac_rfl, show β * (N2 * 2 ^ 142 * (2 ^ 37 + 1)) = β * N2 * 2 ^ 142 * (2 ^ 37 + 1) by ac_rfl] at this
  have f4 : β * N2 * 2 ^ 142 * 137438953471 ≤ x2 * β * 2 ^ 37 := by
    have := Nat.mul_le_mul_left β p4
    rwa [show β * (x2 * 2 ^ 37) = x2 * β * 2 ^ 37 by ac_rfl, show β * (N2 * 2 ^ 142 * 137438953471) = β * N2 * 2 ^ 142 * 137438953471 by ac_rfl] at this
  exact ⟨th_lin1 f1 f3, th_lin2 f2 f4⟩
theorem th_MW {n1 n2 : Int} {w1 w2 : Nat} (e1 : (n1 * n1 - (w1 : Int)).natAbs ≤ 2 ^ 120) (e2 : (n2 * n2 - (w2 : Int)).natAbs ≤ 2 ^ 120) : n1.natAbs * n1.natAbs + n2.natAbs * n2.natAbs ≤ w1 + w2 + 2 ^ 121 ∧ w1 + w2 ≤ n1.natAbs * n1.natAbs + n2.natAbs * n2.natAbs + 2 ^ 121 := by
  have c1 := Int.natAbs_mul_self' n1
  have c2 := Int.natAbs_mul_self' n2
  omega
theorem th_P {α β N1 N2 : Nat} (aa : α ≤ 144) (bb : β ≤ 144) (h1 : N1 ≤ 2 ^ 20) (h2 : N2 ≤ 2 ^ 20) : α * N1 + β * N2 ≤ 2 ^ 29 := by
  have := Nat.mul_le_mul aa h1
  have := Nat.mul_le_mul bb h2
  omega
theorem th_R {M R Y : Nat} (h : R * R * 2 ^ 37 ≤ M * (Y * Y) * (2 ^ 37 + 1)) (hM : M ≤ 2 ^ 175) : R ≤ 2 ^ 90 * Y := by
  refine sq_le ?_
  have e : 2 ^ 90 * Y * (2 ^ 90 * Y) = 2 ^ 180 * (Y * Y) := by
    have : (2 : Nat) ^ 180 = 2 ^ 90 * 2 ^ 90 := by decide
    rw [this]; ac_rfl
  rw [e]
  have := Nat.mul_le_mul_right (Y * Y) hM
  generalize M * (Y * Y) = MZ at *
  generalize Y * Y = Z at *
  generalize R * R = RR at *
  omega
theorem th_le {q R Y O K : Nat} (hq : 0 < q) (hR : R ≤ 2 ^ 90 * Y) (hK : 2 ^ 90 * Y = K) : O * R ≤ q * (O * K) := by
  subst hK
  exact Nat.le_trans (Nat.mul_le_mul_left O hR) (Nat.le_mul_of_pos_left _ hq)
theorem th_div {m K Y O R Q E : Nat} (hO : 0 < O) (hK : K = 2 ^ 71 * Y) (hE : E = 2 ^ 37 * Y) (hQ : Q ≤ 256) (h : 2 * ((m : Int) * (K : Int) * ((Q : Int) * (O : Int)) - (R : Int) * (O : Int)).natAbs ≤ Q * O * E) : R ≤ m * Q * 2 ^ 71 * Y + 2 ^ 44 * Y ∧ m * Q * 2 ^ 71 * Y ≤ R + 2 ^ 44 * Y := by
  have e : (m : Int) * (K : Int) * ((Q : Int) * (O : Int)) - (R : Int) * (O : Int) = (((m * Q * 2 ^ 71 * Y : Nat) : Int) - R) * O := by
    rw [Int.sub_mul]
    congr 1
    rw [hK]
    have : m * (2 ^ 71 * Y) * (Q * O) = m * Q * 2 ^ 71 * Y * O := by ac_rfl
    rw [← Int.natCast_mul, ← Int.natCast_mul, ← Int.natCast_mul, ← Int.natCast_mul, this]
  rw [e, Int.natAbs_mul, Int.natAbs_natCast, ← Nat.mul_assoc, Nat.mul_right_comm Q] at h
  have h := Nat.le_of_mul_le_mul_right h hO
  have h2 : Q * E ≤ 2 ^ 45 * Y := by
    rw [hE]
    have := Nat.mul_le_mul_right (2 ^ 37 * Y) hQ
    omega
  generalize m * Q * 2 ^ 71 * Y = A at *
  omega
/-- one number behind the second norm: if it is as it was, the squares meet -/
theorem third_ne {u1 u2 v : UInt64} {r1 r2 N1 N2 : Nat} {a b S q : Int} (h1 : Dy u1 (r1 : Int) 1000) (h2 : Dy u2 (r2 : Int) 1000) (ha : a.natAbs ≤ 12) (hb : b.natAbs ≤ 12) (hN1 : N1 ≤ 2 ^ 20) (hN2 : N2 ≤ 2 ^ 20)
    (p1 : r1 * r1 * 2 ^ 37 ≤ N1 * 2 ^ 142 * (2 ^ 37 + 1)) (p2 : N1 * 2 ^ 142 * 137438953471 ≤ r1 * r1 * 2 ^ 37) (p3 : r2 * r2 * 2 ^ 37 ≤ N2 * 2 ^ 142 * (2 ^ 37 + 1)) (p4 : N2 * 2 ^ 142 * 137438953471 ≤ r2 * r2 * 2 ^ 37)
    (hq : q.natAbs = a.natAbs * a.natAbs + b.natAbs * b.natAbs) (hq0 : 0 < q.natAbs) (hq2 : q.natAbs ≤ 256) (hS : 0 ≤ S ∧ S ≤ 64) :
    NN (vectorNorm [Float64.abs (si u1 a), Float64.abs (si u2 b)]) ∧ ∃ w : Int, Fv (Float64.div (vectorNorm [Float64.abs (si u1 a), Float64.abs (si u2 b)]) (Float64.abs (Float64.ofInt q))) w ∧
      (w = S * 2 ^ 1071 → a.natAbs * a.natAbs * N1 + b.natAbs * b.natAbs * N2 = S.natAbs * S.natAbs * (q.natAbs * q.natAbs)) := by
  have aa := small_sq (B := 144) ha (by decide)
  have bb := small_sq (B := 144) hb (by decide)
  obtain ⟨n1, d1, e1, g1⟩ := si_dy h1 (r_bnd p1 (by omega)) ha
  obtain ⟨n2, d2, e2, g2⟩ := si_dy h2 (r_bnd p3 (by omega)) hb
  obtain ⟨R, hR, s1, s2⟩ := norm_gen d1 d2 (by omega) (by omega) (by decide) (by decide)
  refine ⟨nn_fv hR (by omega), ?_⟩
  have hd : Fv (Float64.abs (Float64.ofInt q)) (((q.natAbs * 2 ^ 1074 : Nat)) : Int) := dy_fv (dy_abs (dy_ofInt (by omega)))
  have hb0 : (((q.natAbs * 2 ^ 1074 : Nat)) : Int) ≠ 0 := Int.ofNat_ne_zero.mpr (Nat.pos_iff_ne_zero.mp (Nat.mul_pos hq0 (Nat.two_pow_pos _)))
  have hM : n1.natAbs * n1.natAbs + n2.natAbs * n2.natAbs ≤ 2 ^ 175 := by
    have := sq_mul_le g1
    have := sq_mul_le g2
    omega
  have hRb : R ≤ 2 ^ 90 * 2 ^ 1000 := th_R (Y := 2 ^ 1000) s1 hM
  obtain ⟨w, hw, ew⟩ := div_err (P := 1090) hR hd hb0 (by decide) (by decide) (by
    rw [Int.natAbs_natCast, Int.natAbs_natCast, Nat.mul_comm R, Nat.mul_assoc q.natAbs]
    exact th_le hq0 hRb (pow_cat (a := 90) (b := 1000) (c := 1090) rfl))
  refine ⟨w, hw, fun hwS => ?_⟩
  subst hwS
  obtain ⟨m, rfl⟩ := Int.eq_ofNat_of_zero_le hS.1
  have hm : m ≤ 64 := by omega
  rw [Int.natAbs_natCast] at *
  have ew' := th_div (m := m) (K := 2 ^ 1071) (Y := 2 ^ 1000) (O := 2 ^ 1074) (R := R) (Q := q.natAbs) (E := 2 ^ 1037) (Nat.two_pow_pos _) (pow_cat (a := 71) (b := 1000) (c := 1071) rfl).symm (pow_cat (a := 37) (b := 1000) (c := 1037) rfl).symm (by omega) (by
    have := ew
    simp only [Int.natCast_mul, Int.natCast_pow] at this ⊢
    exact this)
  have hmQ : m * q.natAbs ≤ 64 * 256 := Nat.mul_le_mul hm hq2
  obtain ⟨k1, k2⟩ := sq_around ew'.1 ew'.2 (Nat.le_trans (Nat.mul_le_mul_right _ hmQ) (by decide))
  obtain ⟨w1, w2⟩ := th_W (α := a.natAbs * a.natAbs) (β := b.natAbs * b.natAbs) p1 p2 p3 p4
  obtain ⟨v1, v2⟩ := th_MW e1 e2
  have emm : m * q.natAbs * 2 ^ 71 * (m * q.natAbs * 2 ^ 71) = m * m * (q.natAbs * q.natAbs) * 2 ^ 142 := by
    rw [show (2 : Nat) ^ 142 = 2 ^ 71 * 2 ^ 71 by decide]; ac_rfl
  rw [emm] at k1 k2
  exact num_end (Nat.mul_pos (Nat.two_pow_pos _) (Nat.two_pow_pos _)) w1 w2 v1 v2 s1 s2 k1 k2 (th_P aa bb hN1 hN2) (Nat.le_trans (Nat.mul_le_mul (sq_mul_le hm) (sq_mul_le hq2)) (by decide))
theorem third_alg {x y s t : Nat} (h : x * (s * x + t * y) + y * (s * y + t * x) = s * ((x + y) * (x + y))) (hx : 0 < x) (hy : 0 < y) : t = s := by
  have h1 : x * (s * x + t * y) = s * (x * x) + t * (x * y) := by rw [Nat.mul_add]; congr 1 <;> ac_rfl
  have h2 : y * (s * y + t * x) = s * (y * y) + t * (x * y) := by rw [Nat.mul_add]; congr 1 <;> ac_rfl
  have h3 : s * ((x + y) * (x + y)) = s * (x * x) + s * (x * y) + (s * (x * y) + s * (y * y)) := by
    rw [Nat.add_mul, Nat.mul_add, Nat.mul_add, Nat.mul_add, Nat.mul_add, Nat.mul_add, Nat.mul_comm y x]
  rw [h1, h2, h3] at h
  have h4 : t * (x * y) = s * (x * y) := by omega
  exact Nat.eq_of_mul_eq_mul_right (Nat.mul_pos hx hy) h4
theorem third_out {V s : UInt64} {w S : Int} {P : Prop} [Decidable P] (hv : Fv V w) (hs : Dy s S 1071) (h : w = S * 2 ^ 1071 ↔ P) : (Float64.cmp V s == some Ordering.eq) = decide P := by
  rw [cmp_eq hv hs]
  exact decide_eq_decide.mpr h
theorem ex_norm {x y : UInt64} {n1 n2 a b c : Int} (hx : Dy x n1 1071) (hy : Dy y n2 1071) (h1 : n1.natAbs ≤ 2 ^ 20) (h2 : n2.natAbs ≤ 2 ^ 20) (ha : a.natAbs ≤ 12) (hb : b.natAbs ≤ 12) (c0 : 0 ≤ c) (hc : n1 * (a.natAbs : Int) * (n1 * (a.natAbs : Int)) + n2 * (b.natAbs : Int) * (n2 * (b.natAbs : Int)) = c * c) :
    Dy (vectorNorm [Float64.abs (si x a), Float64.abs (si y b)]) c 1071 := by
  obtain ⟨m, rfl⟩ := Int.eq_ofNat_of_zero_le c0
  have g1 := mul_bnd (x := n1) (y := (a.natAbs : Int)) (C := 2 ^ 24) h1 (by rw [Int.natAbs_natCast]; exact ha) (by decide)
  have g2 := mul_bnd (x := n2) (y := (b.natAbs : Int)) (C := 2 ^ 24) h2 (by rw [Int.natAbs_natCast]; exact hb) (by decide)
  exact norm_exact2 (dy_si hx (by omega) (by omega)) (dy_si hy (by omega) (by omega)) (by omega) (by omega) hc (by decide) (by decide)
theorem ex_div {R : UInt64} {S q : Int} (hR : Dy R (S * (q.natAbs : Int)) 1071) (hq0 : 0 < q.natAbs) (hq2 : q.natAbs ≤ 256) (hS : S.natAbs ≤ 64) : Dy (Float64.div R (Float64.abs (Float64.ofInt q))) S 1071 :=
  dy_div hR (dy_abs (dy_ofInt (by omega))) (by omega) (by omega) (by decide) (by decide)
theorem ex_third {s1 s3 u1 u2 : UInt64} {a b' S1 S3 c1 c2 q : Int} {P : Prop} [Decidable P] (hP : P) (h1 : Dy s1 S1 1071) (h3 : Dy s3 S3 1071) (hu1 : Dy u1 c1 1071) (hu2 : Dy u2 c2 1071) (b1 : 0 ≤ S1 ∧ S1 ≤ 64) (b3 : 0 ≤ S3 ∧ S3 ≤ 64) (ha : a.natAbs ≤ 12) (hb : b'.natAbs ≤ 12) (k1 : c1.natAbs ≤ 2 ^ 20) (k2 : c2.natAbs ≤ 2 ^ 20)
    (hq0 : 0 < q.natAbs) (hq2 : q.natAbs ≤ 256)
    (e1 : c1 * (a.natAbs : Int) * (c1 * (a.natAbs : Int)) + c2 * (b'.natAbs : Int) * (c2 * (b'.natAbs : Int)) = S1 * (q.natAbs : Int) * (S1 * (q.natAbs : Int)))
    (e2 : c1 * (b'.natAbs : Int) * (c1 * (b'.natAbs : Int)) + c2 * (a.natAbs : Int) * (c2 * (a.natAbs : Int)) = S3 * (q.natAbs : Int) * (S3 * (q.natAbs : Int))) :
    NN (vectorNorm [Float64.abs (si u1 a), Float64.abs (si u2 b')]) ∧ NN (vectorNorm [Float64.abs (si u1 b'), Float64.abs (si u2 a)]) ∧
    (Float64.cmp (Float64.div (vectorNorm [Float64.abs (si u1 a), Float64.abs (si u2 b')]) (Float64.abs (Float64.ofInt q))) s1 == some Ordering.eq) = decide P ∧
    (Float64.cmp (Float64.div (vectorNorm [Float64.abs (si u1 b'), Float64.abs (si u2 a)]) (Float64.abs (Float64.ofInt q))) s3 == some Ordering.eq) = decide P := by
  have z1 := Int.mul_nonneg b1.1 (Int.natCast_nonneg q.natAbs)
  have z3 := Int.mul_nonneg b3.1 (Int.natCast_nonneg q.natAbs)
  have d1 := ex_norm hu1 hu2 k1 k2 ha hb z1 e1
  have d2 := ex_norm hu1 hu2 k1 k2 hb ha z3 e2
  exact ⟨nn_fv d1 (Int.mul_nonneg z1 (Int.le_of_lt (pow_pos_int _))), nn_fv d2 (Int.mul_nonneg z3 (Int.le_of_lt (pow_pos_int _))), third_out (ex_div d1 hq0 hq2 (by omega)) h1 ⟨fun _ => hP, fun _ => rfl⟩, third_out (ex_div d2 hq0 hq2 (by omega)) h3 ⟨fun _ => hP, fun _ => rfl⟩⟩
theorem sq_eq {S : Int} {α : Nat} : (S * (α : Int)).natAbs * (S * (α : Int)).natAbs = S.natAbs * S.natAbs * (α * α) := by
  rw [Int.natAbs_mul, Int.natAbs_natCast]; ac_rfl
theorem n_bnd {S T : Int} {α β : Nat} (hS : 0 ≤ S ∧ S ≤ 64) (hT : 0 ≤ T ∧ T ≤ 64) (ha : α ≤ 12) (hb : β ≤ 12) (hs : α * α + β * β ≤ 169) : S.natAbs * S.natAbs * (α * α) + T.natAbs * T.natAbs * (β * β) ≤ 2 ^ 20 := by
  have h1 := Nat.mul_le_mul_right (α * α) (small_sq (a := S) (A := 64) (B := 4096) (by omega) (by decide))
  have h2 := Nat.mul_le_mul_right (β * β) (small_sq (a := T) (A := 64) (B := 4096) (by omega) (by decide))
  omega
theorem alg1 {S A B z : Int} (h : A * A + B * B = z * z) : S * A * (S * A) + S * B * (S * B) = z * S * (z * S) := by
  have e1 : S * A * (S * A) = S * S * (A * A) := by ac_rfl
  have e2 : S * B * (S * B) = S * S * (B * B) := by ac_rfl
  have e3 : z * S * (z * S) = S * S * (z * z) := by ac_rfl
  rw [e1, e2, e3, ← Int.mul_add, h]
set_option maxHeartbeats 2000000 in
/-- turned and turned back, the spreads are as they were if and only if they were alike or the turn is a quarter or none -/
theorem third_eq {s1 s3 u1 u2 : UInt64} {a b b' S1 S3 : Int} (h : TG s1 s3 a b u1 u2) (h1 : Dy s1 S1 1071) (h3 : Dy s3 S3 1071) (b1 : 1 ≤ S1 ∧ S1 ≤ 63) (b3 : S1 - 1 ≤ S3 ∧ S3 ≤ S1 + 1) (ba : -9 ≤ a ∧ a ≤ 9) (bb : -12 ≤ b ∧ b ≤ 12) (hb' : b' = b ∨ b' = -b)
    (sz : Int) (hsz : (1 ≤ sz ∧ sz ≤ 13) ∧ a * a + b * b = sz * sz) :
    NN (vectorNorm [Float64.abs (si u1 a), Float64.abs (si u2 b')]) ∧ NN (vectorNorm [Float64.abs (si u1 b'), Float64.abs (si u2 a)]) ∧
    (Float64.cmp (Float64.div (vectorNorm [Float64.abs (si u1 a), Float64.abs (si u2 b')]) (Float64.abs (Float64.ofInt (-(a * a + b * b))))) s1 == some Ordering.eq) = decide (S3 = S1 ∨ a * b = 0) ∧
    (Float64.cmp (Float64.div (vectorNorm [Float64.abs (si u1 b'), Float64.abs (si u2 a)]) (Float64.abs (Float64.ofInt (-(a * a + b * b))))) s3 == some Ordering.eq) = decide (S3 = S1 ∨ a * b = 0) := by
  obtain ⟨rfl, rfl⟩ := h
  have nb : b'.natAbs = b.natAbs := by rcases hb' with h | h <;> rw [h]; exact Int.natAbs_neg b
  have hA12 : a.natAbs ≤ 12 := by omega
  have hB12 : b.natAbs ≤ 12 := by omega
  have s1 : 0 ≤ S1 ∧ S1 ≤ 64 := by omega
  have s3 : 0 ≤ S3 ∧ S3 ≤ 64 := by omega
  clear hb' ba bb
  have n1 : S1.natAbs ≤ 64 := by omega
  have n3 : S3.natAbs ≤ 64 := by omega
  have hszn : sz.natAbs * sz.natAbs ≤ 169 := small_sq (A := 13) (by omega) (by decide)
  have hsz0 : 0 < sz.natAbs * sz.natAbs := Nat.mul_pos (by omega) (by omega)
  have hq : (-(a * a + b * b)).natAbs = a.natAbs * a.natAbs + b.natAbs * b.natAbs := by
    rw [Int.natAbs_neg, hsz.2]; exact sz_sq hsz.2
  have hq' : (-(a * a + b * b)).natAbs = sz.natAbs * sz.natAbs := by rw [Int.natAbs_neg, hsz.2, Int.natAbs_mul]
  have hqi : ((-(a * a + b * b)).natAbs : Int) = sz * sz := by rw [hq', Int.natCast_mul]; exact Int.natAbs_mul_self' sz
  generalize -(a * a + b * b) = q at *
  have hq0 : 0 < q.natAbs := by rw [hq']; exact hsz0
  have hq2 : q.natAbs ≤ 256 := by rw [hq']; exact Nat.le_trans hszn (by decide)
  have g1 : S1.natAbs ≤ 2 ^ 20 := Nat.le_trans n1 (by decide)
  have g3 : S3.natAbs ≤ 2 ^ 20 := Nat.le_trans n3 (by decide)
  have up : ∀ {x : Nat}, x ≤ 12 → x ≤ 2 ^ 14 := fun h => Nat.le_trans h (by decide)
  have wi : ∀ {x : Int}, x.natAbs ≤ 64 → x.natAbs ≤ 2 ^ 36 := fun h => Nat.le_trans h (by decide)
  have mb : ∀ {x : Int} {w : Nat}, x.natAbs ≤ 64 → w ≤ 12 → (x * (w : Int)).natAbs ≤ 2 ^ 20 := fun hx hw => mul_bnd (A := 64) (B := 12) hx (by rw [Int.natAbs_natCast]; exact hw) (by decide)
  by_cases hP : S3 = S1 ∨ a * b = 0
  · have hA : ((a.natAbs : Int)) * (a.natAbs : Int) + (b.natAbs : Int) * (b.natAbs : Int) = sz * sz := by
      rw [Int.natAbs_mul_self', Int.natAbs_mul_self']; exact hsz.2
    have hA' : ((b.natAbs : Int)) * (b.natAbs : Int) + (a.natAbs : Int) * (a.natAbs : Int) = sz * sz := by rw [Int.add_comm]; exact hA
    by_cases hS : S3 = S1
    · subst hS
      have hz : 0 ≤ sz * S3 := Int.mul_nonneg (by omega) s1.1
      have hzb := mul_bnd (x := sz) (y := S3) (A := 13) (B := 64) (C := 2 ^ 20) (by omega) n1 (by decide)
      have hu1 := ex_norm (a := a) (b := b) h1 h3 g1 g1 hA12 hB12 hz (alg1 hA)
      have hu2 := ex_norm (a := b) (b := a) h1 h3 g1 g1 hB12 hA12 hz (alg1 hA')
      have e : S3 * (q.natAbs : Int) = sz * (sz * S3) := by rw [hqi]; ac_rfl
      exact ex_third hP h1 h3 hu1 hu2 s1 s1 hA12 (by rw [nb]; exact hB12) hzb hzb hq0 hq2 (by rw [e, nb]; exact alg1 hA) (by rw [e, nb]; exact alg1 hA')
    · have hab : a * b = 0 := hP.resolve_left hS
      rw [← hqi] at hA
      rcases Int.mul_eq_zero.mp hab with h0 | h0
      · subst h0
        have hw : (q.natAbs : Int) = (b.natAbs : Int) * (b.natAbs : Int) := by rw [← hA]; simp
        have hu1 := ex_norm (a := 0) (b := b) (c := S3 * (b.natAbs : Int)) h1 h3 g1 g3 hA12 hB12 (Int.mul_nonneg s3.1 (Int.natCast_nonneg _)) (by simp)
        have hu2 := ex_norm (a := b) (b := 0) (c := S1 * (b.natAbs : Int)) h1 h3 g1 g3 hB12 hA12 (Int.mul_nonneg s1.1 (Int.natCast_nonneg _)) (by simp)
        exact ex_third hP h1 h3 hu1 hu2 s1 s3 hA12 (by rw [nb]; exact hB12) (mb n3 hB12) (mb n1 hB12) hq0 hq2 (by rw [hw, nb, Int.mul_assoc S1]; simp) (by rw [hw, nb, Int.mul_assoc S3]; simp)
      · subst h0
        have hw : (q.natAbs : Int) = (a.natAbs : Int) * (a.natAbs : Int) := by rw [← hA]; simp
        have hu1 := ex_norm (a := a) (b := 0) (c := S1 * (a.natAbs : Int)) h1 h3 g1 g3 hA12 hB12 (Int.mul_nonneg s1.1 (Int.natCast_nonneg _)) (by simp)
        have hu2 := ex_norm (a := 0) (b := a) (c := S3 * (a.natAbs : Int)) h1 h3 g1 g3 hB12 hA12 (Int.mul_nonneg s3.1 (Int.natCast_nonneg _)) (by simp)
        exact ex_third hP h1 h3 hu1 hu2 s1 s3 hA12 (by rw [nb]; exact hB12) (mb n1 hA12) (mb n3 hA12) hq0 hq2 (by rw [hw, nb, Int.mul_assoc S1]; simp) (by rw [hw, nb, Int.mul_assoc S3]; simp)
  · have hne : S3 ≠ S1 := fun h => hP (.inl h)
    have hab : a * b ≠ 0 := fun h => hP (.inr h)
    have ha0 : 0 < a.natAbs := Int.natAbs_pos.mpr fun h => hab (by rw [h, Int.zero_mul])
    have hb0 : 0 < b.natAbs := Int.natAbs_pos.mpr fun h => hab (by rw [h, Int.mul_zero])
    have xa := Nat.mul_pos ha0 ha0
    have xb := Nat.mul_pos hb0 hb0
    have sp : 0 < S1.natAbs := Int.natAbs_pos.mpr (by omega)
    have ss := Nat.mul_pos sp sp
    obtain ⟨r1, d1, p1, p2⟩ := norm_dy (dy_si (w := a) h1 (wi n1) (up hA12)) (dy_si (w := b) h3 (wi n3) (up hB12)) (mb n1 hA12) (mb n3 hB12) (by rw [sq_eq, sq_eq]; exact Nat.add_pos_left (Nat.mul_pos ss xa) _)
    obtain ⟨r2, d2, p3, p4⟩ := norm_dy (dy_si (w := b) h1 (wi n1) (up hB12)) (dy_si (w := a) h3 (wi n3) (up hA12)) (mb n1 hB12) (mb n3 hA12) (by rw [sq_eq, sq_eq]; exact Nat.add_pos_left (Nat.mul_pos ss xb) _)
    rw [sq_eq, sq_eq] at p1 p2 p3 p4
    have hs : a.natAbs * a.natAbs + b.natAbs * b.natAbs ≤ 169 := by rw [← hq, hq']; exact hszn
    have nb1 := n_bnd (S := S1) (T := S3) (α := a.natAbs) (β := b.natAbs) s1 s3 hA12 hB12 hs
    have nb2 := n_bnd (S := S1) (T := S3) (α := b.natAbs) (β := a.natAbs) s1 s3 hB12 hA12 (by rw [Nat.add_comm]; exact hs)
    have hB12' : b'.natAbs ≤ 12 := by rw [nb]; exact hB12
    obtain ⟨n1, w1, f1, g1⟩ := third_ne (v := 0) (a := a) (b := b') (S := S1) (q := q) d1 d2 hA12 hB12' nb1 nb2 p1 p2 p3 p4 (by rw [nb]; exact hq) hq0 hq2 s1
    obtain ⟨n2, w2, f2, g2⟩ := third_ne (v := 0) (a := b') (b := a) (S := S3) (q := q) d1 d2 hB12' hA12 nb1 nb2 p1 p2 p3 p4 (by rw [nb, Nat.add_comm]; exact hq) hq0 hq2 s3
    rw [nb, hq] at g1 g2
    have hab0 : S3.natAbs * S3.natAbs ≠ S1.natAbs * S1.natAbs := fun h => hne (by
      rw [← Int.natAbs_of_nonneg s3.1, ← Int.natAbs_of_nonneg s1.1, Nat.le_antisymm (sq_le (Nat.le_of_eq h)) (sq_le (Nat.le_of_eq h.symm))])
    refine ⟨n1, n2, third_out f1 h1 ⟨fun hw => ?_, fun h => absurd h hP⟩, third_out f2 h3 ⟨fun hw => ?_, fun h => absurd h hP⟩⟩
    · exact absurd (third_alg (g1 hw) xa xb) hab0
    · have := g2 hw
      refine absurd (third_alg (x := a.natAbs * a.natAbs) (y := b.natAbs * b.natAbs) (s := S3.natAbs * S3.natAbs) (t := S1.natAbs * S1.natAbs) ?_ xa xb).symm hab0
      rw [← this]
      rw [Nat.add_comm (b.natAbs * b.natAbs * _)]
      congr 2
      · exact Nat.add_comm _ _
      · exact Nat.add_comm _ _
end Mine

end TH
section HP1G
open PySem PySem.W PySem.Calls PyProof.Rows
set_option Elab.async false
set_option linter.unusedVariables false
namespace Mine
section
variable {w : World} {A₀ : Around} {E : Value → Shared → Prop} {s : Shared} {L : Addr} {h₀ base : Heap} {m mg mb : Str → Option Value} {news : List (Addr × Obj)} {mean : ExcName → Option Value} {env : Env} {outer : List Env} {Q : Value → Shared → Prop}
  {p : Program} {loose : List Str} {d u : Nat} {gs : Option (List Code)} {mu sg mu2 sg2 : UInt64} {t1 t2 t3 t4 : Tok} {x dx y dy : Addr}
/-- what the two calls of the last comparison know of their numbers -/
structure GB (s1 s3 : UInt64) (a b sz S1 S3 X Y P0 P1 : Int) : Prop where
  h1 : Dy s1 S1 1071
  h3 : Dy s3 S3 1071
  b1 : 1 ≤ S1 ∧ S1 ≤ 63
  b3 : S1 - 1 ≤ S3 ∧ S3 ≤ S1 + 1
  ba : -9 ≤ a ∧ a ≤ 9
  bb : -12 ≤ b ∧ b ≤ 12
  sz : (1 ≤ sz ∧ sz ≤ 13) ∧ a * a + b * b = sz * sz
  bX : X.natAbs ≤ 2 ^ 21
  bY : Y.natAbs ≤ 2 ^ 21
  bp0 : P0.natAbs ≤ 2 ^ 20
  bp1 : P1.natAbs ≤ 2 ^ 20
theorem turnG {pl ql : Addr} {p0 p1 : UInt64} {u0 u1 : Tok} {a b : Int} {ta tb : Tok} {fl : Bool} {X Y P0 P1 S1 S3 sz : Int} (B : Below A₀ base outer h₀) (F : Fr h₀ L s.heap m) (N : News h₀ L s.heap news) (T : Top p loose mean mg mb h₀)
    (hf : env.frame = some L) (hke : env.scope.kind = .function) (hroom : d + 40 < recursionLimit)
    (hp : (pl, W.listOf #[Value.ref x, Value.ref y] 0) ∈ news) (hq : (ql, W.listOf #[Value.float p0 u0, Value.float p1 u1] 0) ∈ news) (hx : (x, ndO dx (.float mu t1) (.float sg t2)) ∈ news) (hdx : (dx, dictOf [] 0) ∈ news) (hy : (y, ndO dy (.float mu2 t3) (.float sg2 t4)) ∈ news) (hdy : (dy, dictOf [] 0) ∈ news) (hp2 : 0 < t2) (hp4 : 0 < t4)
    (hb : GB sg sg2 a b sz S1 S3 X Y P0 P1) (h1 : Dy mu (P0 + X) 1071) (h3 : Dy mu2 (P1 + Y) 1071) (q0 : Dy p0 P0 1071) (q1 : Dy p1 P1 1071)
    (h : ∀ (l x1 d1 x2 d2 : Addr) h' tk M1 S1 M2 S2 v1 v2 v3 v4, 0 < tk → 0 < v1 → 0 < v2 → 0 < v3 → 0 < v4 → Dy M1 (P0 + RX fl a b X Y) 1071 → Dy M2 (P1 + RY fl a b X Y) 1071 → TG sg sg2 a b S1 S2 → Fr h₀ L h' m →
      News h₀ L h' ((l, W.listOf #[Value.ref x1, Value.ref x2] 0) :: (x2, ndO d2 (.float M2 v3) (.float S2 v4)) :: (d2, dictOf [] 0) :: (x1, ndO d1 (.float M1 v1) (.float S1 v2)) :: (d1, dictOf [] 0) :: news) → Q (.ref l) { s with heap := h', toks := tk }) :
    (K1 w.params).In h₀ → wpAny (model PySem.Challenge.rw_oz0057_01.row.prog w) (AA d env outer gs u) (call (.ref 288) [.int a ta, .int b tb, .bool fl, .ref pl, .ref ql] []) Q E s := by
  obtain ⟨g1, g3, b1, b3, ba, bb, hsz, bX, bY, bp0, bp1⟩ := hb
  obtain ⟨n1, n2⟩ := tg_nn (u1 := _) (u2 := _) ⟨rfl, rfl⟩ g1 g3 (by omega) (by omega) ba bb
  obtain ⟨m1, m2, m3, m4⟩ := turn_mean (a := a) (b := b) fl h1 h3 q0 q1 (by omega) (by omega) (by omega) (by omega) bp0 bp1
  cases fl
  · exact turned_f B F N T hf hke hroom hp hq hx hdx hy hdy hp2 hp4 (by omega) (by omega) (nn_dy g1 (by omega)) (nn_dy g3 (by omega)) n1 n2 fun l x1 d1 x2 d2 h' tk v1 v2 v3 v4 k0 k1 k2 k3 k4 F' N' => h l x1 d1 x2 d2 h' tk _ _ _ _ v1 v2 v3 v4 k0 k1 k2 k3 k4 m3 m4 ⟨rfl, rfl⟩ F' N'
  · exact turned_t B F N T hf hke hroom hp hq hx hdx hy hdy hp2 hp4 (by omega) (by omega) (nn_dy g1 (by omega)) (nn_dy g3 (by omega)) n1 n2 fun l x1 d1 x2 d2 h' tk v1 v2 v3 v4 k0 k1 k2 k3 k4 F' N' => h l x1 d1 x2 d2 h' tk _ _ _ _ v1 v2 v3 v4 k0 k1 k2 k3 k4 m1 m2 ⟨rfl, rfl⟩ F' N'
theorem backG {pl ql : Addr} {p0 p1 z1 z3 : UInt64} {u0 u1 : Tok} {a b : Int} {ta tb : Tok} {fl : Bool} {X Y P0 P1 S1 S3 sz : Int} (B : Below A₀ base outer h₀) (F : Fr h₀ L s.heap m) (N : News h₀ L s.heap news) (T : Top p loose mean mg mb h₀)
    (hf : env.frame = some L) (hke : env.scope.kind = .function) (hroom : d + 60 < recursionLimit)
    (hp : (pl, W.listOf #[Value.ref x, Value.ref y] 0) ∈ news) (hq : (ql, W.listOf #[Value.float p0 u0, Value.float p1 u1] 0) ∈ news) (hx : (x, ndO dx (.float mu t1) (.float sg t2)) ∈ news) (hdx : (dx, dictOf [] 0) ∈ news) (hy : (y, ndO dy (.float mu2 t3) (.float sg2 t4)) ∈ news) (hdy : (dy, dictOf [] 0) ∈ news) (hp2 : 0 < t2) (hp4 : 0 < t4)
    (hg : TG z1 z3 a b sg sg2) (hb : GB z1 z3 a b sz S1 S3 X Y P0 P1) (h1 : Dy mu (P0 + RX fl a b X Y) 1071) (h3 : Dy mu2 (P1 + RY fl a b X Y) 1071) (q0 : Dy p0 P0 1071) (q1 : Dy p1 P1 1071)
    (h : ∀ (l x1 d1 x2 d2 : Addr) h' tk M1 S1' M2 S2 v1 v2 v3 v4, 0 < tk → 0 < v1 → 0 < v2 → 0 < v3 → 0 < v4 → Dy M1 (P0 + X) 1071 → Dy M2 (P1 + Y) 1071 → (Float64.cmp S1' z1 == some Ordering.eq) = decide (S3 = S1 ∨ a * b = 0) → (Float64.cmp S2 z3 == some Ordering.eq) = decide (S3 = S1 ∨ a * b = 0) → Fr h₀ L h' m →
      News h₀ L h' ((l, W.listOf #[Value.ref x1, Value.ref x2] 0) :: (x2, ndO d2 (.float M2 v3) (.float S2 v4)) :: (d2, dictOf [] 0) :: (x1, ndO d1 (.float M1 v1) (.float S1' v2)) :: (d1, dictOf [] 0) :: news) → Q (.ref l) { s with heap := h', toks := tk }) :
    (K1 w.params).In h₀ → wpAny (model PySem.Challenge.rw_oz0057_01.row.prog w) (AA d env outer gs u) (call (.ref 295) [.int a ta, .int b tb, .bool fl, .ref pl, .ref ql] []) Q E s := by
  obtain ⟨g1, g3, b1, b3, ba, bb, hsz, bX, bY, bp0, bp1⟩ := hb
  obtain ⟨n1, n2⟩ := tg_nn hg g1 g3 (by omega) (by omega) ba bb
  obtain ⟨eX, eY⟩ := back_xy fl a b X Y
  obtain ⟨rx, ry⟩ : (RX fl a b X Y).natAbs ≤ 2 ^ 36 ∧ (RY fl a b X Y).natAbs ≤ 2 ^ 36 := by
    have c1 := mul_bnd (x := a) (y := X) (A := 9) (C := 2 ^ 30) (by omega) bX (by decide)
    have c2 := mul_bnd (x := b) (y := Y) (A := 12) (C := 2 ^ 30) (by omega) bY (by decide)
    have c3 := mul_bnd (x := b) (y := X) (A := 12) (C := 2 ^ 30) (by omega) bX (by decide)
    have c4 := mul_bnd (x := a) (y := Y) (A := 9) (C := 2 ^ 30) (by omega) bY (by decide)
    exact rxy_nb fl c1 c2 c3 c4 (by decide) (by decide)
  have sq : 0 < a * a + b * b ∧ a * a + b * b ≤ 2 ^ 28 := sq_bnd (f := sz) (by omega) (by omega) hsz.2
  have z0 : Dy (Float64.zero false) ((a * a + b * b) * 0) 1071 := by rw [Int.mul_zero]; exact dy_zero (fv_zero false) _
  cases fl
  · simp only [Bool.false_eq_true, if_false] at eX eY
    obtain ⟨t1', t2', t3', t4'⟩ := third_eq hg g1 g3 b1 b3 ba bb (.inr rfl) sz hsz
    obtain ⟨m1, m2, m3, m4⟩ := turn_mean (a := a) (b := -b) false h1 h3 q0 q1 rx ry (by omega) (by omega) bp0 bp1
    rw [eX] at m3
    rw [eY] at m4
    obtain ⟨f1, f2, f3, f4⟩ := back_fin m3 m4 z0 z0 q0 q1 sq.1 sq.2 bX bY (by decide) (by decide) bp0 bp1
    exact back_f B F N T hf hke hroom hp hq hx hdx hy hdy hp2 hp4 (by omega) (by omega) (by omega) (by omega) n1 n2 t1' t2' fun l x1 d1 x2 d2 h' tk v1 v2 v3 v4 k0 k1 k2 k3 k4 F' N' => h l x1 d1 x2 d2 h' tk _ _ _ _ v1 v2 v3 v4 k0 k1 k2 k3 k4 f1 f3 t3' t4' F' N'
  · simp only [if_true] at eX eY
    obtain ⟨t1', t2', t3', t4'⟩ := third_eq hg g1 g3 b1 b3 ba bb (.inl rfl) sz hsz
    obtain ⟨m1, m2, m3, m4⟩ := turn_mean (a := a) (b := b) true h1 h3 q0 q1 rx ry (by omega) (by omega) bp0 bp1
    rw [eX] at m1
    rw [eY] at m2
    obtain ⟨f1, f2, f3, f4⟩ := back_fin m1 m2 z0 z0 q0 q1 sq.1 sq.2 bX bY (by decide) (by decide) bp0 bp1
    exact back_t B F N T hf hke hroom hp hq hx hdx hy hdy hp2 hp4 (by omega) (by omega) (by omega) (by omega) n1 n2 t1' t2' fun l x1 d1 x2 d2 h' tk v1 v2 v3 v4 k0 k1 k2 k3 k4 F' N' => h l x1 d1 x2 d2 h' tk _ _ _ _ v1 v2 v3 v4 k0 k1 k2 k3 k4 f1 f3 t3' t4' F' N'
end
end Mine

end HP1G
section EQ
open PySem PySem.W PySem.Calls PyProof.Rows
set_option Elab.async false
set_option linter.unusedVariables false
namespace Mine
open PySem.SeqAt
section
variable {A : Around} {s : Shared}
theorem isSame_float {M : Model} {E : Value → Shared → Prop} {y z : UInt64} {u v : Tok} {P : Prop} {Q : Bool → Shared → Prop}
    (h0 : (u == 0 || v == 0) = false) (hb : NoneBooked s.heap) (hne : (u == v) = true → P) (heq : y = z → P) (hq : ∀ b, (b = true → P) → Q b s) : wpAny M A (isSame (.float y u) (.float z v)) Q E s := by
  show wpAny M A (isSame.created (y == z && !Float64.isNaN y) u v) Q E s
  unfold isSame.created
  refine wpAny_ite ?_
  split
  · rename_i h; rw [h0] at h; exact absurd h Bool.false_ne_true
  refine wpAny_ite ?_
  split
  · rename_i h; exact wpAny_pure (hq _ fun _ => hne h)
  refine wpAny_ite ?_
  split
  · exact wpAny_pure (hq _ fun h => absurd h Bool.false_ne_true)
  rename_i he
  have hyz : y = z := by
    have : (y == z && !Float64.isNaN y) = true := by
      cases h : (y == z && !Float64.isNaN y) with
      | true => rfl
      | false => rw [h] at he; exact absurd rfl he
    exact eq_of_beq (Bool.and_eq_true_iff.mp this).1
  refine wpAny_bind (wpAny_sharingNotTold_none hb ?_)
  first | rw [if_neg Bool.false_ne_true] | simp only [Bool.false_eq_true, if_false]
  refine wpAny_bind (wpAny_sharingNotTold_none hb ?_)
  first | rw [if_neg Bool.false_ne_true] | simp only [Bool.false_eq_true, if_false]
  exact wpAny_bind (wpAny_rule (wpAny_bind (wpAny_askSetting (wpAny_pure (hq _ fun _ => heq hyz)))))
theorem eqAt_float {x y : UInt64} {a b : Int} {t u : Tok} (hx : Fv x a) (hy : Fv y b) (ht : 0 < t) (hu : 0 < u) (htu : (t == u) = true → a = b) (hb : NoneBooked s.heap) : EqAt A s (.float x t) (.float y u) (decide (a = b)) := fun prog w E Q h => by
  have key : x = y → a = b := fun e => by subst e; exact fv_uniq hx hy
  unfold eqBool
  refine wpAny_holding ?_
  refine wpAny_ite_split (fun hab => ?_) (fun _ => ?_)
  · have e : x = y := by have := eq_of_beq hab; injection this
    rw [decide_eq_true (key e)] at h
    exact wpAny_bind (wpAny_rule (wpAny_pure h))
  · show wpAny _ _ (isSame (.float x t) (.float y u) >>= _) _ _ _
    refine wpAny_bind (isSame_float (P := a = b) ?_ hb htu key fun c hc => ?_)
    · have h1 : (t == 0) = false := by simp; exact Nat.ne_of_gt ht
      have h2 : (u == 0) = false := by simp; exact Nat.ne_of_gt hu
      rw [h1, h2]; rfl
    refine wpAny_ite_split (fun hc1 => ?_) (fun hc1 => ?_)
    · rw [decide_eq_true (hc hc1)] at h
      exact wpAny_pure h
    · refine wpAny_bind ?_
      show wpAny _ _ (compareOp .Eq (.float x t) (.float y u)) _ _ _
      refine AutoFloatOps.eq_0 ?_
      rw [cmp_eq hx hy]
      exact wpAny_truthy_bool h
theorem eqAt_f1 {x y : UInt64} {a : Int} {t u : Tok} (hx : Fv x a) (hy : Fv y a) (ht : 0 < t) (hu : 0 < u) (hb : NoneBooked s.heap) : EqAt A s (.float x t) (.float y u) true := by
  have := eqAt_float (A := A) hx hy ht hu (fun _ => rfl) hb
  rwa [decide_eq_true rfl] at this
theorem eqAt_row {l k : Addr} {m1 s1 n1 r1 : UInt64} {u1 u2 v1 v2 : Tok} {a b : Int} (hl : s.heap.IsList l #[Value.float m1 u1, Value.float s1 u2]) (hk : s.heap.IsList k #[Value.float n1 v1, Value.float r1 v2])
    (x1 : Fv m1 a) (x2 : Fv n1 a) (y1 : Fv s1 b) (y2 : Fv r1 b) (p1 : 0 < u1) (p2 : 0 < u2) (p3 : 0 < v1) (p4 : 0 < v2) (hb : NoneBooked s.heap) (hu : A.units < cLine) : EqAt A s (.ref l) (.ref k) true := by
  by_cases h : l = k
  · subst h; exact EqAt.same _
  · refine EqAt.of_refs h ?_
    have := RcAt.lists (A := A) hl hk rfl hu (e := fun _ => true) (fun j h1 h2 => match j, h1, h2 with
      | 0, _, _ => eqAt_f1 x1 x2 p1 p3 hb
      | 1, _, _ => eqAt_f1 y1 y2 p2 p4 hb)
    exact this
theorem ne_rows {l l1 l2 k k1 k2 : Addr} {m1 s1 m2 s2 n1 r1 n2 r2 : UInt64} {u1 u2 u3 u4 v1 v2 v3 v4 : Tok} {a b c d : Int} (h0 : s.heap.IsList l #[Value.ref l1, Value.ref l2]) (g0 : s.heap.IsList k #[Value.ref k1, Value.ref k2])
    (h1 : s.heap.IsList l1 #[Value.float m1 u1, Value.float s1 u2]) (h2 : s.heap.IsList l2 #[Value.float m2 u3, Value.float s2 u4]) (g1 : s.heap.IsList k1 #[Value.float n1 v1, Value.float r1 v2]) (g2 : s.heap.IsList k2 #[Value.float n2 v3, Value.float r2 v4])
    (x1 : Fv m1 a) (x2 : Fv n1 a) (y1 : Fv s1 b) (y2 : Fv r1 b) (z1 : Fv m2 c) (z2 : Fv n2 c) (w1 : Fv s2 d) (w2 : Fv r2 d) (p1 : 0 < u1) (p2 : 0 < u2) (p3 : 0 < u3) (p4 : 0 < u4) (q1 : 0 < v1) (q2 : 0 < v2) (q3 : 0 < v3) (q4 : 0 < v4)
    (hb : NoneBooked s.heap) (hu : A.units < cLine) (hu2 : A.in1.units < cLine) : RcNeAt A s (.ref l) (.ref k) false := by
  have := RcNeAt.lists (A := A) h0 g0 rfl hu (e := fun _ => true) (fun j h1' h2' => match j, h1', h2' with
    | 0, _, _ => eqAt_row h1 g1 x1 x2 y1 y2 p1 p2 q1 q2 hb hu2
    | 1, _, _ => eqAt_row h2 g2 z1 z2 w1 w2 p3 p4 q3 q4 hb hu2)
  exact this
end
theorem noneBooked {w : World} {h₀ h : Heap} {L : Addr} {m : Str → Option Value} (X : (K1 w.params).In h₀) (F : Fr h₀ L h m) : NoneBooked h := by
  have := F.keep _ _ (X 2 _ rfl)
  refine ⟨_, ⟨_, _, _, this, rfl, ?_, fun _ => rfl⟩, ?_⟩
  · intro e he
    simp only [List.mem_toArray, List.mem_cons, List.not_mem_nil, or_false] at he
    rcases he with rfl | rfl | rfl | rfl | rfl | rfl | rfl | rfl | rfl | rfl <;> exact ⟨_, _, rfl⟩
  · rfl
theorem isList_news {h₀ h : Heap} {L l : Addr} {news : List (Addr × Obj)} {vs : Array Value} {n : Nat} (N : News h₀ L h news) (hm : (l, W.listOf vs n) ∈ news) : h.IsList l vs := ⟨_, (N _ hm).1, rfl, _, rfl⟩
theorem isList_lst {h₀ h : Heap} {L l : Addr} {news : List (Addr × Obj)} {vs : List Value} (N : News h₀ L h news) (hm : (l, PyProof.Rows.LCg.lst vs) ∈ news) : h.IsList l vs.toArray := ⟨_, (N _ hm).1, rfl, _, rfl⟩
/-- two told pairs of the same values are not unequal -/
theorem ne_told {prog : Program} {w : World} {A : Around} {E : Value → Shared → Prop} {s : Shared} {h₀ : Heap} {L : Addr} {m : Str → Option Value} {news : List (Addr × Obj)} {Q : Value → Shared → Prop}
    {l l1 l2 k k1 k2 : Addr} {m1 s1 m2 s2 n1 r1 n2 r2 : UInt64} {u1 u2 u3 u4 v1 v2 v3 v4 : Tok} {a b c d : Int} (F : Fr h₀ L s.heap m) (N : News h₀ L s.heap news) (X : (K1 w.params).In h₀)
    (h0 : (l, PyProof.Rows.LCg.lst [Value.ref l1, Value.ref l2]) ∈ news) (g0 : (k, PyProof.Rows.LCg.lst [Value.ref k1, Value.ref k2]) ∈ news)
    (h1 : (l1, W.listOf #[Value.float m1 u1, Value.float s1 u2] 0) ∈ news) (h2 : (l2, W.listOf #[Value.float m2 u3, Value.float s2 u4] 0) ∈ news)
    (g1 : (k1, W.listOf #[Value.float n1 v1, Value.float r1 v2] 0) ∈ news) (g2 : (k2, W.listOf #[Value.float n2 v3, Value.float r2 v4] 0) ∈ news)
    (x1 : Fv m1 a) (x2 : Fv n1 a) (y1 : Fv s1 b) (y2 : Fv r1 b) (z1 : Fv m2 c) (z2 : Fv n2 c) (w1 : Fv s2 d) (w2 : Fv r2 d) (p1 : 0 < u1) (p2 : 0 < u2) (p3 : 0 < u3) (p4 : 0 < u4) (q1 : 0 < v1) (q2 : 0 < v2) (q3 : 0 < v3) (q4 : 0 < v4)
    (hu : A.units < cLine) (hu2 : A.in1.units < cLine) (h : Q (.bool false) s) : wpAny (model prog w) A (compareOp .NotEq (.ref l) (.ref k)) Q E s :=
  ne_rows (isList_lst N h0) (isList_lst N g0) (isList_news N h1) (isList_news N h2) (isList_news N g1) (isList_news N g2) x1 x2 y1 y2 z1 z2 w1 w2 p1 p2 p3 p4 q1 q2 q3 q4 (noneBooked X F) hu hu2 prog w E Q h
end Mine

end EQ
section L1
open PySem PySem.W PySem.Calls PyProof.Rows
set_option Elab.async false
set_option linter.unusedVariables false
namespace Mine
def Stop (p : Prop) : Prop := p
theorem Stop.of {p : Prop} (h : Stop p) : p := h
theorem Stop.goes {p : Prop} (h : p) : Stop p := h
theorem store_gen {M : Model} {A : Around} {env : Env} {x : Str} {e : Int} {t : Tok} {Q : Unit → Shared → Prop} {E : Value → Shared → Prop} {s : Shared} (h : ∀ (v : Int) (t' : Tok), Flt.Hid (v = e) → wpAny M A (storeName env x (.int v t')) Q E s) : wpAny M A (storeName env x (.int e t)) Q E s := h e t ⟨rfl⟩
set_option genInjectivity false in
set_option genSizeOf false in
/-- the state of the law between two turns: the objects, the floats, the numbers -/
structure St where
  FL : Addr
  x1 : Addr
  e1 : Addr
  x2 : Addr
  e2 : Addr
  PL : Addr
  DL : Addr
  l1 : Addr
  l2 : Addr
  PR : Addr
  y1 : Addr
  g1 : Addr
  y2 : Addr
  g2 : Addr
  m1 : UInt64
  s1 : UInt64
  m2 : UInt64
  s2 : UInt64
  p0 : UInt64
  p1 : UInt64
  d1 : UInt64
  d2 : UInt64
  d3 : UInt64
  d4 : UInt64
  n1 : UInt64
  r1 : UInt64
  n2 : UInt64
  r2 : UInt64
  k1 : Tok
  k2 : Tok
  k3 : Tok
  k4 : Tok
  k5 : Tok
  k6 : Tok
  k7 : Tok
  k8 : Tok
  k9 : Tok
  k10 : Tok
  k11 : Tok
  k12 : Tok
  k13 : Tok
  k14 : Tok
  ta : Tok
  tb : Tok
  ts : Tok
  a : Int
  b : Int
  sp : Int
  M1 : Int
  M2 : Int
  P0 : Int
  P1 : Int
  fl : Bool
abbrev led (z : St) : List (Addr × Obj) :=
  [(z.FL, W.listOf #[Value.ref z.x1, Value.ref z.x2] 0), (z.x1, ndO z.e1 (.float z.m1 z.k1) (.float z.s1 z.k2)), (z.e1, dictOf [] 0), (z.x2, ndO z.e2 (.float z.m2 z.k3) (.float z.s2 z.k4)), (z.e2, dictOf [] 0),
   (z.PL, W.listOf #[Value.float z.p0 z.k5, Value.float z.p1 z.k6] 0), (z.DL, PyProof.Rows.LCg.lst [Value.ref z.l1, Value.ref z.l2]), (z.l1, W.listOf #[Value.float z.d1 z.k7, Value.float z.d2 z.k8] 0), (z.l2, W.listOf #[Value.float z.d3 z.k9, Value.float z.d4 z.k10] 0),
   (z.PR, W.listOf #[Value.ref z.y1, Value.ref z.y2] 0), (z.y1, ndO z.g1 (.float z.n1 z.k11) (.float z.r1 z.k12)), (z.g1, dictOf [] 0), (z.y2, ndO z.g2 (.float z.n2 z.k13) (.float z.r2 z.k14)), (z.g2, dictOf [] 0)]
/-- the names that stand from turn to turn -/
def BN (z : St) (u : Str → Option Value) : Prop :=
  u (Str.ofString "first") = some (.ref z.FL) ∧ u (Str.ofString "point") = some (.ref z.PL) ∧ u (Str.ofString "due") = some (.ref z.DL) ∧ u (Str.ofString "pair") = some (.ref z.PR) ∧
  u (Str.ofString "a") = some (.int z.a z.ta) ∧ u (Str.ofString "b") = some (.int z.b z.tb) ∧ u (Str.ofString "flipped") = some (.bool z.fl) ∧ u (Str.ofString "spread") = some (.int z.sp z.ts)
/-- what holds of the numbers; f: how many times as far -/
structure OK (z : St) (f : Int) : Prop where
  sp : 1 ≤ z.sp ∧ z.sp ≤ 63
  mm : z.M1.natAbs ≤ 2 ^ 20 ∧ z.M2.natAbs ≤ 2 ^ 20
  pp : (0 ≤ z.P0 ∧ z.P0 < 1024) ∧ (0 ≤ z.P1 ∧ z.P1 < 1024)
  ff : (0 < f ∧ f ≤ 2 ^ 14) ∧ z.a * z.a + z.b * z.b = f * f
  dm1 : Dy z.m1 (z.P0 + (z.M1 - z.P0)) 1071
  ds1 : Dy z.s1 z.sp 1071
  dm2 : Dy z.m2 (z.P1 + (z.M2 - z.P1)) 1071
  ds2 : Dy z.s2 z.sp 1071
  dp0 : Dy z.p0 z.P0 1071
  dp1 : Dy z.p1 z.P1 1071
  dd1 : Dy z.d1 (z.P0 + (z.M1 - z.P0)) 1071
  dd2 : Dy z.d2 z.sp 1071
  dd3 : Dy z.d3 (z.P1 + (z.M2 - z.P1)) 1071
  dd4 : Dy z.d4 z.sp 1071
  dn1 : Dy z.n1 (z.P0 + RX z.fl z.a z.b (z.M1 - z.P0) (z.M2 - z.P1)) 1071
  dr1 : Dy z.r1 (f * z.sp) 1071
  dn2 : Dy z.n2 (z.P1 + RY z.fl z.a z.b (z.M1 - z.P0) (z.M2 - z.P1)) 1071
  dr2 : Dy z.r2 (f * z.sp) 1071
  tk : (0 < z.k1 ∧ 0 < z.k2 ∧ 0 < z.k3 ∧ 0 < z.k4) ∧ (0 < z.k7 ∧ 0 < z.k8 ∧ 0 < z.k9 ∧ 0 < z.k10) ∧ (0 < z.k11 ∧ 0 < z.k12 ∧ 0 < z.k13 ∧ 0 < z.k14)
def Car (f : Int) (u : Str → Option Value) (nx : List (Addr × Obj)) : Prop := f = 32768 ∨ ∃ z : St, BN z u ∧ nx = led z ∧ OK z f
def mRF (D : Addr) (f : Int) (tf : Tok) (u : Str → Option Value) : Str → Option Value := fun y => if y = Str.ofString "row" then some (.ref D) else if y = Str.ofString "far" then some (.int f tf) else u y
theorem mRF_of {D : Addr} {f : Int} {tf : Tok} {m : Str → Option Value} (h1 : m (Str.ofString "row") = some (.ref D)) (h2 : m (Str.ofString "far") = some (.int f tf)) : m = mRF D f tf m := by
  funext y
  unfold mRF
  by_cases a : y = Str.ofString "row"
  · rw [if_pos a, a, h1]
  · rw [if_neg a]
    by_cases b : y = Str.ofString "far"
    · rw [if_pos b, b, h2]
    · rw [if_neg b]
def J1 (D : Addr) (o1 : Obj) (m : Str → Option Value) (nx : List (Addr × Obj)) : Prop := ∃ f tf u nx', m = mRF D f tf u ∧ nx = (D, o1) :: nx' ∧ Car f u nx'
section
variable {prog : Program} {w : World} {A : Around} {E : Value → Shared → Prop} {s : Shared} {env : Env} {h₀ : Heap} {target : Expr} {body : List Stmt} {Q : Flow → Shared → Prop}
/-- for NAME in a range, by an invariant over names and ledger -/
theorem range_inv2 {xn : Str} {px : Pos} {r : Addr} {a₀ b₀ : Int} {t₀ u₀ v₀ : Tok} {n : Nat} {m₀ : Str → Option Value} {news : List (Addr × Obj)} (J : Nat → (Str → Option Value) → List (Addr × Obj) → Prop)
    (hh : A.handled = none) (hr : IsRange s.heap r a₀ b₀ 1 t₀ u₀ v₀) (hsmall : Builtin.Range.small a₀ b₀ 1 = true) (hn : Builtin.Range.rangeSize a₀ b₀ 1 = (n : Int)) (F : Fr h₀ env.locals s.heap m₀) (N : News h₀ env.locals s.heap news)
    (hj : J 0 m₀ news)
    (turn : ∀ (i : Nat) t m₁ news₁ h tk I oI, i < n → J i m₁ news₁ → Fr h₀ env.locals h m₁ → News h₀ env.locals h ((I, oI) :: news₁) → (∀ p ∈ news₁, p.1 ≠ I) → oI.cls = .type "range_iterator" →
      wpAny (model prog w) A (assign (.Name xn px) env (.int (a₀ + (i : Int)) t)) (fun _ s₂ => wpAny (model prog w) A (execs body env) (TPost h₀ env.locals (J (i + 1)) I oI { s with heap := h, toks := tk } Q) E s₂) E { s with heap := h, toks := tk })
    (done : ∀ m₁ news₁ h tk, J n m₁ news₁ → Fr h₀ env.locals h m₁ → News h₀ env.locals h news₁ → Q .next { s with heap := h, toks := tk }) :
    wpAny (model prog w) A (pyIter (.ref r)) (fun it s₂ => TurnsAt prog w A h₀ env (.Name xn px) body Q E it s₂) E s := by
  refine wpAny_pyIter_range hr hsmall ?_
  have hnew := next_is_new F
  have W₀ : Walks prog w A s.heap.objs.size [s.heap.objs.size] [s.heap.objs.size] n (fun i v => i < n ∧ ∃ t, v = .int (a₀ + i * 1) t)
      (fun i h => IsRangeIter h s.heap.objs.size (a₀ + (i : Nat) * 1) ((n : Int) - (i : Nat)) 1) := (Walks.range hh _ a₀ 1 n).bound
  have W := KTurns.ofWalks (target := .Name xn px) W₀ fun i v s Q E st q => (by
    show wpAny _ _ (letOwnedTupleGo (.Name xn px) (.ref _) v) _ _ _
    exact wpAny_pure q)
  refine ⟨s.heap.objs.size, _, _, n, _, _, _, m₀, news, J, rfl, W, ?_, ?_, ?_, (by show IsRangeIter _ _ _ _ _; rw [hn]; simpa using Heap.get?_push_size _ rfl), F.push _, (fun p hp => ⟨Heap.get?_push_of_some _ (N p hp).1, (N p hp).2⟩), hj, ?_, ?_⟩
  · intro hI
    exact absurd F.ns.lt ((List.mem_singleton.mp hI) ▸ Nat.lt_irrefl _)
  · intro b hb
    rw [List.mem_singleton.mp hb]
    exact hnew
  · intro p hp hI
    exact absurd (Heap.lt_size (N p hp).1) ((List.mem_singleton.mp hI) ▸ Nat.lt_irrefl _)
  · rintro i v m₁ news₁ h₁ tk₁ own hin ⟨_, t, rfl⟩ hJ₁ hoff hown hget hall hst F₁ N₁
    obtain ⟨oI, hoI, hcI⟩ : ∃ oI, h₁.get? s.heap.objs.size = some oI ∧ oI.cls = .type "range_iterator" := ⟨_, hst, rfl⟩
    have hmem := hall s.heap.objs.size (by simp) hnew oI hoI
    have hoff' : ∀ p ∈ news₁, p.1 ≠ s.heap.objs.size := fun p hp e => hoff p hp (by rw [e]; exact List.mem_singleton.mpr rfl)
    have N₂ : News h₀ env.locals h₁ ((s.heap.objs.size, oI) :: news₁) := fun p hp => by
      rcases List.mem_cons.mp hp with rfl | hp
      · exact N₁ _ (List.mem_append_left _ hmem)
      · exact N₁ _ (List.mem_append_right _ hp)
    have e1 : a₀ + (i : Int) * 1 = a₀ + (i : Int) := by omega
    rw [e1]
    refine wpAny_mono (turn i t m₁ news₁ h₁ tk₁ _ oI hin hJ₁ F₁ N₂ hoff' hcI) (fun _ s₂ h₂ => wpAny_mono h₂ (fun f s₃ p => ?_) fun _ _ e => e) fun _ _ e => e
    have fin : TEnd h₀ env.locals (J (i + 1)) s.heap.objs.size oI { s with heap := h₁, toks := tk₁ } s₃ → LoopStepU h₀ env.locals [s.heap.objs.size] own (J (i + 1)) { s with heap := h₁, toks := tk₁ } .next s₃ := by
      rintro ⟨h', tk, m', news', nx, e, F', N', hI, hn, ho, hj'⟩
      refine ⟨rfl, h', tk, m', nx, e, F', ?_, fun p hp hq => ho p hp (List.mem_singleton.mp hq), hj'⟩
      intro p hp
      rcases List.mem_append.mp hp with hp | hp
      · have h2 := hget p hp
        have h4 := List.mem_singleton.mp (hown p hp)
        have : p = (s.heap.objs.size, oI) := by rw [h4, hoI] at h2; exact Prod.ext h4 (Option.some.inj h2).symm
        rw [this]; exact N' _ hI
      · exact N' p (hn p hp)
    cases f with
    | ret v => exact .ret p
    | brk => exact .brk p
    | next => exact .next (fin p)
    | cont => exact .cont (fin p)
  · intro h' tk m' news' F' N' _ hJ'
    exact done m' news' h' tk hJ' F' N'

end
theorem range_law1 {prog : Program} {w : World} {A : Around} {E : Value → Shared → Prop} {s : Shared} {env : Env} {h₀ : Heap} {body : List Stmt} {Q : Flow → Shared → Prop} {xn : Str} {px : Pos} {r D : Addr} {o1 : Obj} {nx0 : List (Addr × Obj)} {a₀ b₀ : Int} {t₀ u₀ v₀ : Tok} {n : Nat} {m₀ : Str → Option Value} {f0 : Int} {tf0 : Tok}
    (hh : A.handled = none) (hr : IsRange s.heap r a₀ b₀ 1 t₀ u₀ v₀) (hsmall : Builtin.Range.small a₀ b₀ 1 = true) (hn : Builtin.Range.rangeSize a₀ b₀ 1 = (n : Int)) (F : Fr h₀ env.locals s.heap m₀)
    (N : News h₀ env.locals s.heap ((D, o1) :: nx0)) (hrow : m₀ (Str.ofString "row") = some (.ref D)) (hfar : m₀ (Str.ofString "far") = some (.int f0 tf0)) (hf0 : f0 = 32768)
    (turn : ∀ (i : Nat) t f tf (u : Str → Option Value) nx' h tk I oI, i < n → Car f u nx' → Fr h₀ env.locals h (fun y => if y = Str.ofString "row" then some (.ref D) else if y = Str.ofString "far" then some (.int f tf) else u y) → News h₀ env.locals h ((I, oI) :: (D, o1) :: nx') → (∀ p ∈ (D, o1) :: nx', p.1 ≠ I) → oI.cls = .type "range_iterator" →
      wpAny (model prog w) A (assign (.Name xn px) env (.int (a₀ + (i : Int)) t)) (fun _ s₂ => wpAny (model prog w) A (execs body env) (TPost h₀ env.locals (J1 D o1) I oI { s with heap := h, toks := tk } Q) E s₂) E { s with heap := h, toks := tk })
    (done : ∀ m h tk nx, Fr h₀ env.locals h m → News h₀ env.locals h nx → Q .next { s with heap := h, toks := tk }) :
    wpAny (model prog w) A (pyIter (.ref r)) (fun it s₂ => TurnsAt prog w A h₀ env (.Name xn px) body Q E it s₂) E s := by
  refine range_inv2 (fun _ => J1 D o1) hh hr hsmall hn F N ⟨f0, tf0, m₀, nx0, mRF_of hrow hfar, rfl, .inl hf0⟩ ?_ ?_
  · rintro i t m₁ news₁ h tk I oI hi ⟨f, tf, u, nx', rfl, rfl, hc⟩ F₁ N₁ ho hcl
    exact turn i t f tf u nx' h tk I oI hi hc F₁ N₁ ho hcl
  · rintro m₁ news₁ h tk _ F₁ N₁
    exact done m₁ h tk news₁ F₁ N₁
def MidP (h₀ : Heap) (L : Addr) (R : (Str → Option Value) → List (Addr × Obj) → Prop) (s : Shared) (fl : Flow) (s' : Shared) : Prop :=
  fl = .next ∧ ∃ h' tk m' nx, s' = { s with heap := h', toks := tk } ∧ 0 < tk ∧ Fr h₀ L h' m' ∧ News h₀ L h' nx ∧ R m' nx
theorem MidP.intro {h₀ : Heap} {L : Addr} {R : (Str → Option Value) → List (Addr × Obj) → Prop} {s : Shared} {h' : Heap} {tk : Nat} {m' : Str → Option Value} {nx : List (Addr × Obj)} (F : Fr h₀ L h' m') (N : News h₀ L h' nx) (k : 0 < tk) (r : R m' nx) : MidP h₀ L R s .next { s with heap := h', toks := tk } :=
  ⟨rfl, h', tk, m', nx, rfl, k, F, N, r⟩
theorem if_cut {M : Model} {A : Around} {st : Stmt} {env : Env} {Q : Flow → Shared → Prop} {E : Value → Shared → Prop} {s : Shared} {h₀ : Heap} {L : Addr} (R : (Str → Option Value) → List (Addr × Obj) → Prop)
    (first : wpAny M A (exec st env) (MidP h₀ L R s) E s) (rest : ∀ h' tk m' nx, 0 < tk → Fr h₀ L h' m' → News h₀ L h' nx → R m' nx → Q .next { s with heap := h', toks := tk }) : wpAny M A (exec st env) Q E s :=
  wpAny_mono first (by rintro fl s' ⟨rfl, h', tk, m', nx, rfl, k, F, N, r⟩; exact rest h' tk m' nx k F N r) fun _ _ e => e
theorem p1_bnd {p v : Int} (h : p = 1 + Int.fmod v 3) : 1 ≤ p ∧ p ≤ 3 := by
  have h1 := Int.fmod_nonneg_of_pos v (b := 3) (by decide)
  have h2 := Int.fmod_lt_of_pos v (b := 3) (by decide)
  omega
theorem q1_bnd {q v : Int} (h : q = Int.fmod v 5 - 2) : -2 ≤ q ∧ q ≤ 2 := by
  have h1 := Int.fmod_nonneg_of_pos v (b := 5) (by decide)
  have h2 := Int.fmod_lt_of_pos v (b := 5) (by decide)
  omega
theorem car_bnd {f : Int} {u : Str → Option Value} {nx : List (Addr × Obj)} (h : Car f u nx) : 0 < f ∧ f ≤ 32768 := by
  rcases h with rfl | ⟨z, _, _, o⟩
  · decide
  · have := o.ff.1; omega
theorem cds_bnd {p q c d sz : Int} (hp : 1 ≤ p ∧ p ≤ 3) (hq : -2 ≤ q ∧ q ≤ 2) (hc : c = p * p - q * q) (hd : d = 2 * p * q) (hs : sz = p * p + q * q) : (1 ≤ sz ∧ sz ≤ 13) ∧ c * c + d * d = sz * sz ∧ (-9 ≤ c ∧ c ≤ 9) ∧ (-12 ≤ d ∧ d ≤ 12) := by
  obtain ⟨p1, p2⟩ := hp
  obtain ⟨q1, q2⟩ := hq
  have hpc : p = 1 ∨ p = 2 ∨ p = 3 := by omega
  have hqc : q = -2 ∨ q = -1 ∨ q = 0 ∨ q = 1 ∨ q = 2 := by omega
  subst hc hd hs
  rcases hpc with rfl | rfl | rfl <;> rcases hqc with rfl | rfl | rfl | rfl | rfl <;> decide
theorem news_apart {h₀ h : Heap} {L I : Addr} {oI : Obj} {news : List (Addr × Obj)} (N : News h₀ L h news) (hI : (I, oI) ∈ news) {p : Addr × Obj} (hp : p ∈ news) (hc : p.2.cls ≠ oI.cls) : p.1 ≠ I := by
  intro e
  have h1 := (N _ hI).1
  have h2 := (N _ hp).1
  rw [e] at h2
  rw [h1] at h2
  have e2 : oI = p.2 := Option.some.inj h2
  exact hc (by rw [← e2])
end Mine

end L1
section L1b
open PySem PySem.W PySem.Calls PyProof.Rows
set_option Elab.async false
set_option linter.unusedVariables false
namespace Mine
abbrev mMid (D : Addr) (n : Int) (tn : Tok) (aF : UInt64) (tah : Tok) (v : Int) (tv : Tok) (c : Int) (tc : Tok) (d : Int) (td : Tok) (sz : Int) (tsz : Tok) (mir : Bool) (z : St) (f : Int) (tf : Tok) (u : Str → Option Value) : Str → Option Value := fun y => if y = Str.ofString "row" then some (.ref D) else if y = Str.ofString "far" then some (.int f tf) else if y = Str.ofString "n" then some (.int n tn) else if y = Str.ofString "ahead" then some (.float aF tah) else if y = Str.ofString "v" then some (.int v tv) else if y = Str.ofString "c" then some (.int c tc) else if y = Str.ofString "d" then some (.int d td) else if y = Str.ofString "size" then some (.int sz tsz) else if y = Str.ofString "mirrored" then some (.bool mir) else if y = Str.ofString "first" then some (.ref z.FL) else if y = Str.ofString "point" then some (.ref z.PL) else if y = Str.ofString "due" then some (.ref z.DL) else if y = Str.ofString "pair" then some (.ref z.PR) else if y = Str.ofString "a" then some (.int z.a z.ta) else if y = Str.ofString "b" then some (.int z.b z.tb) else if y = Str.ofString "flipped" then some (.bool z.fl) else if y = Str.ofString "spread" then some (.int z.sp z.ts) else u y
def Mid (I : Addr) (oI : Obj) (o1 : Obj) (D : Addr) (n : Int) (tn : Tok) (aF : UInt64) (tah : Tok) (v : Int) (tv : Tok) (c : Int) (tc : Tok) (d : Int) (td : Tok) (sz : Int) (tsz : Tok) (mir : Bool) (m : Str → Option Value) (nx : List (Addr × Obj)) : Prop :=
  ∃ z f tf u, m = mMid D n tn aF tah v tv c tc d td sz tsz mir z f tf u ∧ nx = (I, oI) :: (D, o1) :: led z ∧ OK z f ∧ f * sz ≤ 16384
theorem put2 {m g : Str → Option Value} {x : Str} {v : Option Value} (h : m x = v) (hg : m = g) : m = fun y => if y = x then v else g y := by
  funext y
  by_cases e : y = x
  · rw [if_pos e, e, h]
  · rw [if_neg e]; exact congrFun hg y
theorem mid_intro {h₀ : Heap} {L : Addr} {s : Shared} {h' : Heap} {tk : Nat} {m' : Str → Option Value} {news : List (Addr × Obj)} {I : Addr} {oI o1 : Obj} {D : Addr} {n : Int} {tn : Tok} {aF : UInt64} {tah : Tok} {v : Int} {tv : Tok} {c : Int} {tc : Tok} {d : Int} {td : Tok} {sz : Int} {tsz : Tok} {mir : Bool} {f : Int} {tf : Tok} {FL x1 e1 x2 e2 PL DL l1 l2 PR y1 g1 y2 g2 : Addr} {m1 s1 m2 s2 p0 p1 d1 d2 d3 d4 n1 r1 n2 r2 : UInt64} {k1 k2 k3 k4 k5 k6 k7 k8 k9 k10 k11 k12 k13 k14 ta tb ts : Tok} {a b sp M1 M2 P0 P1 : Int} {fl : Bool}
    (F : Fr h₀ L h' m') (N : News h₀ L h' news) (k : 0 < tk) (hI : (I, oI) ∈ news) (hD : (D, o1) ∈ news) (a0 : m' (Str.ofString "row") = some (.ref D)) (a1 : m' (Str.ofString "far") = some (.int f tf)) (a2 : m' (Str.ofString "n") = some (.int n tn)) (a3 : m' (Str.ofString "ahead") = some (.float aF tah)) (a4 : m' (Str.ofString "v") = some (.int v tv)) (a5 : m' (Str.ofString "c") = some (.int c tc)) (a6 : m' (Str.ofString "d") = some (.int d td)) (a7 : m' (Str.ofString "size") = some (.int sz tsz)) (a8 : m' (Str.ofString "mirrored") = some (.bool mir)) (a9 : m' (Str.ofString "first") = some (.ref FL)) (a10 : m' (Str.ofString "point") = some (.ref PL)) (a11 : m' (Str.ofString "due") = some (.ref DL)) (a12 : m' (Str.ofString "pair") = some (.ref PR)) (a13 : m' (Str.ofString "a") = some (.int a ta)) (a14 : m' (Str.ofString "b") = some (.int b tb)) (a15 : m' (Str.ofString "flipped") = some (.bool fl)) (a16 : m' (Str.ofString "spread") = some (.int sp ts)) (b0 : (FL, W.listOf #[Value.ref x1, Value.ref x2] 0) ∈ news) (b1 : (x1, ndO e1 (.float m1 k1) (.float s1 k2)) ∈ news) (b2 : (e1, dictOf [] 0) ∈ news) (b3 : (x2, ndO e2 (.float m2 k3) (.float s2 k4)) ∈ news) (b4 : (e2, dictOf [] 0) ∈ news) (b5 : (PL, W.listOf #[Value.float p0 k5, Value.float p1 k6] 0) ∈ news) (b6 : (DL, PyProof.Rows.LCg.lst [Value.ref l1, Value.ref l2]) ∈ news) (b7 : (l1, W.listOf #[Value.float d1 k7, Value.float d2 k8] 0) ∈ news) (b8 : (l2, W.listOf #[Value.float d3 k9, Value.float d4 k10] 0) ∈ news) (b9 : (PR, W.listOf #[Value.ref y1, Value.ref y2] 0) ∈ news) (b10 : (y1, ndO g1 (.float n1 k11) (.float r1 k12)) ∈ news) (b11 : (g1, dictOf [] 0) ∈ news) (b12 : (y2, ndO g2 (.float n2 k13) (.float r2 k14)) ∈ news) (b13 : (g2, dictOf [] 0) ∈ news)
    (ok : OK ⟨FL, x1, e1, x2, e2, PL, DL, l1, l2, PR, y1, g1, y2, g2, m1, s1, m2, s2, p0, p1, d1, d2, d3, d4, n1, r1, n2, r2, k1, k2, k3, k4, k5, k6, k7, k8, k9, k10, k11, k12, k13, k14, ta, tb, ts, a, b, sp, M1, M2, P0, P1, fl⟩ f) (hfs : f * sz ≤ 16384) : MidP h₀ L (Mid I oI o1 D n tn aF tah v tv c tc d td sz tsz mir) s .next { s with heap := h', toks := tk } :=
  MidP.intro F (nx := (I, oI) :: (D, o1) :: led ⟨FL, x1, e1, x2, e2, PL, DL, l1, l2, PR, y1, g1, y2, g2, m1, s1, m2, s2, p0, p1, d1, d2, d3, d4, n1, r1, n2, r2, k1, k2, k3, k4, k5, k6, k7, k8, k9, k10, k11, k12, k13, k14, ta, tb, ts, a, b, sp, M1, M2, P0, P1, fl⟩) (news_sub N (by
    intro p hp
    simp only [led, List.mem_cons, List.not_mem_nil, or_false] at hp
    rcases hp with rfl | rfl | rfl | rfl | rfl | rfl | rfl | rfl | rfl | rfl | rfl | rfl | rfl | rfl | rfl | rfl <;> first | exact hI | exact hD | exact b0 | exact b1 | exact b2 | exact b3 | exact b4 | exact b5 | exact b6 | exact b7 | exact b8 | exact b9 | exact b10 | exact b11 | exact b12 | exact b13)) k ⟨⟨FL, x1, e1, x2, e2, PL, DL, l1, l2, PR, y1, g1, y2, g2, m1, s1, m2, s2, p0, p1, d1, d2, d3, d4, n1, r1, n2, r2, k1, k2, k3, k4, k5, k6, k7, k8, k9, k10, k11, k12, k13, k14, ta, tb, ts, a, b, sp, M1, M2, P0, P1, fl⟩, f, tf, m', (put2 a0 (put2 a1 (put2 a2 (put2 a3 (put2 a4 (put2 a5 (put2 a6 (put2 a7 (put2 a8 (put2 a9 (put2 a10 (put2 a11 (put2 a12 (put2 a13 (put2 a14 (put2 a15 (put2 a16 rfl))))))))))))))))), rfl, ok, hfs⟩
theorem if_cut1 {M : Model} {A : Around} {st : Stmt} {env : Env} {Q : Flow → Shared → Prop} {E : Value → Shared → Prop} {s : Shared} {h₀ : Heap} {L : Addr} {m : Str → Option Value} {news : List (Addr × Obj)} (I : Addr) {oI o1 : Obj} {D : Addr} {n : Int} {tn : Tok} {ah : Int} {tah : Tok} {v : Int} {tv : Tok} {c : Int} {tc : Tok} {d : Int} {td : Tok} {sz : Int} {tsz : Tok} {mir : Bool}
    (F : Fr h₀ L s.heap m) (N : News h₀ L s.heap news) (a0 : m (Str.ofString "row") = some (.ref D)) (a2 : m (Str.ofString "n") = some (.int n tn)) (a3 : m (Str.ofString "ahead") = some (.float (m8 ah) tah)) (a4 : m (Str.ofString "v") = some (.int v tv)) (a5 : m (Str.ofString "c") = some (.int c tc)) (a6 : m (Str.ofString "d") = some (.int d td)) (a7 : m (Str.ofString "size") = some (.int sz tsz)) (a8 : m (Str.ofString "mirrored") = some (.bool mir)) (hI : (I, oI) ∈ news) (hD : (D, o1) ∈ news)
    (first : wpAny M A (exec st env) (MidP h₀ L (Mid I oI o1 D n tn (m8 ah) tah v tv c tc d td sz tsz mir) s) E s)
    (rest : ∀ h' tk z f tf u aF, m8 ah = aF → 0 < tk → Fr h₀ L h' (mMid D n tn aF tah v tv c tc d td sz tsz mir z f tf u) → News h₀ L h' ((I, oI) :: (D, o1) :: led z) → OK z f → f * sz ≤ 16384 → Q .next { s with heap := h', toks := tk }) : wpAny M A (exec st env) Q E s :=
  if_cut _ first (by rintro h' tk m' nx k F' N' ⟨z, f, tf, u, rfl, rfl, ok, hfs⟩; exact rest h' tk z f tf u _ rfl k F' N' ok hfs)
def Mid2 (I : Addr) (oI : Obj) (o1 : Obj) (D : Addr) (n : Int) (tn : Tok) (aF : UInt64) (tah : Tok) (v : Int) (tv : Tok) (c : Int) (tc : Tok) (d : Int) (td : Tok) (sz : Int) (tsz : Tok) (mir : Bool) (m : Str → Option Value) (nx : List (Addr × Obj)) : Prop :=
  ∃ z f tf u, m = mMid D n tn aF tah v tv c tc d td sz tsz mir z f tf u ∧ nx = (I, oI) :: (D, o1) :: led z ∧ OK z (f * sz)
theorem mid_intro2 {h₀ : Heap} {L : Addr} {s : Shared} {h' : Heap} {tk : Nat} {m' : Str → Option Value} {news : List (Addr × Obj)} {I : Addr} {oI o1 : Obj} {D : Addr} {n : Int} {tn : Tok} {aF : UInt64} {tah : Tok} {v : Int} {tv : Tok} {c : Int} {tc : Tok} {d : Int} {td : Tok} {sz : Int} {tsz : Tok} {mir : Bool} {f : Int} {tf : Tok} {FL x1 e1 x2 e2 PL DL l1 l2 PR y1 g1 y2 g2 : Addr} {m1 s1 m2 s2 p0 p1 d1 d2 d3 d4 n1 r1 n2 r2 : UInt64} {k1 k2 k3 k4 k5 k6 k7 k8 k9 k10 k11 k12 k13 k14 ta tb ts : Tok} {a b sp M1 M2 P0 P1 : Int} {fl : Bool}
    (F : Fr h₀ L h' m') (N : News h₀ L h' news) (k : 0 < tk) (hI : (I, oI) ∈ news) (hD : (D, o1) ∈ news) (a0 : m' (Str.ofString "row") = some (.ref D)) (a1 : m' (Str.ofString "far") = some (.int f tf)) (a2 : m' (Str.ofString "n") = some (.int n tn)) (a3 : m' (Str.ofString "ahead") = some (.float aF tah)) (a4 : m' (Str.ofString "v") = some (.int v tv)) (a5 : m' (Str.ofString "c") = some (.int c tc)) (a6 : m' (Str.ofString "d") = some (.int d td)) (a7 : m' (Str.ofString "size") = some (.int sz tsz)) (a8 : m' (Str.ofString "mirrored") = some (.bool mir)) (a9 : m' (Str.ofString "first") = some (.ref FL)) (a10 : m' (Str.ofString "point") = some (.ref PL)) (a11 : m' (Str.ofString "due") = some (.ref DL)) (a12 : m' (Str.ofString "pair") = some (.ref PR)) (a13 : m' (Str.ofString "a") = some (.int a ta)) (a14 : m' (Str.ofString "b") = some (.int b tb)) (a15 : m' (Str.ofString "flipped") = some (.bool fl)) (a16 : m' (Str.ofString "spread") = some (.int sp ts)) (b0 : (FL, W.listOf #[Value.ref x1, Value.ref x2] 0) ∈ news) (b1 : (x1, ndO e1 (.float m1 k1) (.float s1 k2)) ∈ news) (b2 : (e1, dictOf [] 0) ∈ news) (b3 : (x2, ndO e2 (.float m2 k3) (.float s2 k4)) ∈ news) (b4 : (e2, dictOf [] 0) ∈ news) (b5 : (PL, W.listOf #[Value.float p0 k5, Value.float p1 k6] 0) ∈ news) (b6 : (DL, PyProof.Rows.LCg.lst [Value.ref l1, Value.ref l2]) ∈ news) (b7 : (l1, W.listOf #[Value.float d1 k7, Value.float d2 k8] 0) ∈ news) (b8 : (l2, W.listOf #[Value.float d3 k9, Value.float d4 k10] 0) ∈ news) (b9 : (PR, W.listOf #[Value.ref y1, Value.ref y2] 0) ∈ news) (b10 : (y1, ndO g1 (.float n1 k11) (.float r1 k12)) ∈ news) (b11 : (g1, dictOf [] 0) ∈ news) (b12 : (y2, ndO g2 (.float n2 k13) (.float r2 k14)) ∈ news) (b13 : (g2, dictOf [] 0) ∈ news)
    (ok : OK ⟨FL, x1, e1, x2, e2, PL, DL, l1, l2, PR, y1, g1, y2, g2, m1, s1, m2, s2, p0, p1, d1, d2, d3, d4, n1, r1, n2, r2, k1, k2, k3, k4, k5, k6, k7, k8, k9, k10, k11, k12, k13, k14, ta, tb, ts, a, b, sp, M1, M2, P0, P1, fl⟩ (f * sz)) : MidP h₀ L (Mid2 I oI o1 D n tn aF tah v tv c tc d td sz tsz mir) s .next { s with heap := h', toks := tk } :=
  MidP.intro F (nx := (I, oI) :: (D, o1) :: led ⟨FL, x1, e1, x2, e2, PL, DL, l1, l2, PR, y1, g1, y2, g2, m1, s1, m2, s2, p0, p1, d1, d2, d3, d4, n1, r1, n2, r2, k1, k2, k3, k4, k5, k6, k7, k8, k9, k10, k11, k12, k13, k14, ta, tb, ts, a, b, sp, M1, M2, P0, P1, fl⟩) (news_sub N (by
    intro p hp
    simp only [led, List.mem_cons, List.not_mem_nil, or_false] at hp
    rcases hp with rfl | rfl | rfl | rfl | rfl | rfl | rfl | rfl | rfl | rfl | rfl | rfl | rfl | rfl | rfl | rfl <;> first | exact hI | exact hD | exact b0 | exact b1 | exact b2 | exact b3 | exact b4 | exact b5 | exact b6 | exact b7 | exact b8 | exact b9 | exact b10 | exact b11 | exact b12 | exact b13)) k ⟨⟨FL, x1, e1, x2, e2, PL, DL, l1, l2, PR, y1, g1, y2, g2, m1, s1, m2, s2, p0, p1, d1, d2, d3, d4, n1, r1, n2, r2, k1, k2, k3, k4, k5, k6, k7, k8, k9, k10, k11, k12, k13, k14, ta, tb, ts, a, b, sp, M1, M2, P0, P1, fl⟩, f, tf, m', (put2 a0 (put2 a1 (put2 a2 (put2 a3 (put2 a4 (put2 a5 (put2 a6 (put2 a7 (put2 a8 (put2 a9 (put2 a10 (put2 a11 (put2 a12 (put2 a13 (put2 a14 (put2 a15 (put2 a16 rfl))))))))))))))))), rfl, ok⟩
theorem if_cut2 {M : Model} {A : Around} {st : Stmt} {env : Env} {Q : Flow → Shared → Prop} {E : Value → Shared → Prop} {s : Shared} {h₀ : Heap} {L : Addr} {m : Str → Option Value} {news : List (Addr × Obj)} (I : Addr) {oI o1 : Obj} {D : Addr} {n : Int} {tn : Tok} {aF : UInt64} {tah : Tok} {v : Int} {tv : Tok} {c : Int} {tc : Tok} {d : Int} {td : Tok} {sz : Int} {tsz : Tok} {mir : Bool}
    (F : Fr h₀ L s.heap m) (N : News h₀ L s.heap news) (a0 : m (Str.ofString "row") = some (.ref D)) (a2 : m (Str.ofString "n") = some (.int n tn)) (a3 : m (Str.ofString "ahead") = some (.float aF tah)) (a4 : m (Str.ofString "v") = some (.int v tv)) (a5 : m (Str.ofString "c") = some (.int c tc)) (a6 : m (Str.ofString "d") = some (.int d td)) (a7 : m (Str.ofString "size") = some (.int sz tsz)) (a8 : m (Str.ofString "mirrored") = some (.bool mir)) (hI : (I, oI) ∈ news) (hD : (D, o1) ∈ news)
    (first : wpAny M A (exec st env) (MidP h₀ L (Mid2 I oI o1 D n tn aF tah v tv c tc d td sz tsz mir) s) E s)
    (rest : ∀ h' tk z f tf u, 0 < tk → Fr h₀ L h' (mMid D n tn aF tah v tv c tc d td sz tsz mir z f tf u) → News h₀ L h' ((I, oI) :: (D, o1) :: led z) → OK z (f * sz) → Q .next { s with heap := h', toks := tk }) : wpAny M A (exec st env) Q E s :=
  if_cut _ first (by rintro h' tk m' nx k F' N' ⟨z, f, tf, u, rfl, rfl, ok⟩; exact rest h' tk z f tf u k F' N' ok)
theorem nn_m8 {sp n : Int} (h : sp = 1 + Int.fmod n 63) : NN (m8 sp) := by
  have h1 := Int.fmod_nonneg_of_pos n (b := 63) (by decide)
  have h2 := Int.fmod_lt_of_pos n (b := 63) (by decide)
  exact nn_dy (dy_m8 (by omega)) (by omega)
theorem ok_start {n a1 a2 sp : Int} {FL x1 e1 x2 e2 PL DL l1 l2 : Addr} {k1 k2 k3 k4 k5 k6 ta tb ts : Tok} (hs : sp = 1 + Int.fmod n 63) (h1 : -1048576 < a1 ∧ a1 < 1048576) (h2 : -1048576 < a2 ∧ a2 < 1048576) (p1 : 0 < k1) (p2 : 0 < k2) (p3 : 0 < k3) (p4 : 0 < k4) :
    OK ⟨FL, x1, e1, x2, e2, PL, DL, l1, l2, FL, x1, e1, x2, e2, m8 a1, m8 sp, m8 a2, m8 sp, m8 (Int.fmod (n + 5) 1024), m8 (Int.fmod (n - 7) 1024), m8 a1, m8 sp, m8 a2, m8 sp, m8 a1, m8 sp, m8 a2, m8 sp, k1, k2, k3, k4, k5, k6, k1, k2, k3, k4, k1, k2, k3, k4, ta, tb, ts, 1, 0, sp, a1, a2, Int.fmod (n + 5) 1024, Int.fmod (n - 7) 1024, false⟩ 1 := by
  have q1 := Int.fmod_nonneg_of_pos n (b := 63) (by decide)
  have q2 := Int.fmod_lt_of_pos n (b := 63) (by decide)
  have q3 := Int.fmod_nonneg_of_pos (n + 5) (b := 1024) (by decide)
  have q4 := Int.fmod_lt_of_pos (n + 5) (b := 1024) (by decide)
  have q5 := Int.fmod_nonneg_of_pos (n - 7) (b := 1024) (by decide)
  have q6 := Int.fmod_lt_of_pos (n - 7) (b := 1024) (by decide)
  generalize Int.fmod (n + 5) 1024 = P0 at *
  generalize Int.fmod (n - 7) 1024 = P1 at *
  have d1 : Dy (m8 a1) (P0 + (a1 - P0)) 1071 := by rw [show P0 + (a1 - P0) = a1 by omega]; exact dy_m8 h1
  have d2 : Dy (m8 a2) (P1 + (a2 - P1)) 1071 := by rw [show P1 + (a2 - P1) = a2 by omega]; exact dy_m8 h2
  have ds : Dy (m8 sp) sp 1071 := dy_m8 (by omega)
  have ds1 : Dy (m8 sp) (1 * sp) 1071 := by rw [Int.one_mul]; exact ds
  refine ⟨⟨by show 1 ≤ sp; omega, by show sp ≤ 63; omega⟩, ⟨by show a1.natAbs ≤ 2 ^ 20; omega, by show a2.natAbs ≤ 2 ^ 20; omega⟩, ⟨⟨q3, q4⟩, q5, q6⟩, ⟨⟨by decide, by decide⟩, by show (1 : Int) * 1 + 0 * 0 = 1 * 1; decide⟩, d1, ds, d2, ds, dy_m8 (by omega), dy_m8 (by omega), d1, ds, d2, ds, ?_, ds1, ?_, ds1, ⟨p1, p2, p3, p4⟩, ⟨p1, p2, p3, p4⟩, p1, p2, p3, p4⟩
  · show Dy (m8 a1) (P0 + RX false 1 0 (a1 - P0) (a2 - P1)) 1071
    unfold RX
    simp only [Bool.false_eq_true, if_false]
    rw [show (1 : Int) * (a1 - P0) - 0 * (a2 - P1) = a1 - P0 by omega]; exact d1
  · show Dy (m8 a2) (P1 + RY false 1 0 (a1 - P0) (a2 - P1)) 1071
    unfold RY
    simp only [Bool.false_eq_true, if_false]
    rw [show (0 : Int) * (a1 - P0) + 1 * (a2 - P1) = a2 - P1 by omega]; exact d2
theorem ab_bnd {a b f : Int} (h0 : 0 < f) (h : a * a + b * b = f * f) : a.natAbs ≤ f.natAbs ∧ b.natAbs ≤ f.natAbs := by
  have e1 : ((a.natAbs * a.natAbs : Nat) : Int) = a * a := by rw [Int.natCast_mul]; exact Int.natAbs_mul_self' a
  have e2 : ((b.natAbs * b.natAbs : Nat) : Int) = b * b := by rw [Int.natCast_mul]; exact Int.natAbs_mul_self' b
  have e3 : ((f.natAbs * f.natAbs : Nat) : Int) = f * f := by rw [Int.natCast_mul]; exact Int.natAbs_mul_self' f
  constructor
  · refine sq_le ?_
    generalize a.natAbs * a.natAbs = A at *
    generalize b.natAbs * b.natAbs = B at *
    generalize f.natAbs * f.natAbs = C at *
    omega
  · refine sq_le ?_
    generalize a.natAbs * a.natAbs = A at *
    generalize b.natAbs * b.natAbs = B at *
    generalize f.natAbs * f.natAbs = C at *
    omega
theorem xy_bnd {z : St} {f : Int} (ok : OK z f) : (z.M1 - z.P0).natAbs ≤ 2 ^ 21 ∧ (z.M2 - z.P1).natAbs ≤ 2 ^ 21 := by
  exact ⟨(add_nb (B := 2 ^ 20) ok.mm.1 (by have := ok.pp; omega) (by decide)).2, (add_nb (B := 2 ^ 20) ok.mm.2 (by have := ok.pp; omega) (by decide)).2⟩
theorem rxy_bnd (fl : Bool) {a b X Y : Int} (ha : a.natAbs ≤ 2 ^ 14) (hb : b.natAbs ≤ 2 ^ 14) (hX : X.natAbs ≤ 2 ^ 21) (hY : Y.natAbs ≤ 2 ^ 21) : (RX fl a b X Y).natAbs ≤ 2 ^ 36 ∧ (RY fl a b X Y).natAbs ≤ 2 ^ 36 := by
  have b1 := mul_bnd (C := 2 ^ 35) ha hX (by decide)
  have b2 := mul_bnd (C := 2 ^ 35) hb hY (by decide)
  have b3 := mul_bnd (C := 2 ^ 35) hb hX (by decide)
  have b4 := mul_bnd (C := 2 ^ 35) ha hY (by decide)
  exact rxy_nb fl b1 b2 b3 b4 (by decide) (by decide)
theorem fsp_bnd {f sp : Int} (hf : 0 < f ∧ f ≤ 2 ^ 14) (hs : 1 ≤ sp ∧ sp ≤ 63) : 0 ≤ f * sp ∧ f * sp ≤ 2 ^ 20 := by
  refine ⟨Int.mul_nonneg (by omega) (by omega), ?_⟩
  have := Int.mul_le_mul (a := f) (b := sp) (c := 2 ^ 14) (d := 63) (by omega) hs.2 (by omega) (by decide)
  omega
theorem bnd1 {z : St} {f c d sz : Int} (ok : OK z f) (h : (1 ≤ sz ∧ sz ≤ 13) ∧ c * c + d * d = sz * sz ∧ (-9 ≤ c ∧ c ≤ 9) ∧ (-12 ≤ d ∧ d ≤ 12)) :
    ((RX z.fl z.a z.b (z.M1 - z.P0) (z.M2 - z.P1)).natAbs ≤ 2 ^ 36 ∧ (RY z.fl z.a z.b (z.M1 - z.P0) (z.M2 - z.P1)).natAbs ≤ 2 ^ 36 ∧ c.natAbs ≤ 2 ^ 14 ∧ d.natAbs ≤ 2 ^ 14) ∧ (z.P0.natAbs ≤ 2 ^ 20 ∧ z.P1.natAbs ≤ 2 ^ 20 ∧ 0 ≤ f * z.sp ∧ f * z.sp ≤ 2 ^ 20) ∧ 0 ≤ sz ∧ c * c + d * d = sz * sz := by
  obtain ⟨x1, x2⟩ := xy_bnd ok
  obtain ⟨a1, a2⟩ := ab_bnd ok.ff.1.1 ok.ff.2
  have f1 := ok.ff.1
  obtain ⟨r1, r2⟩ := rxy_bnd z.fl (a := z.a) (b := z.b) (by omega) (by omega) x1 x2
  have := ok.pp
  exact ⟨⟨r1, r2, by omega, by omega⟩, ⟨by omega, by omega, fsp_bnd f1 ok.sp⟩, by omega, h.2.1⟩
/-- the numbers behind a turn -/
structure Nx (z : St) (f f' a' b' : Int) (fl' : Bool) : Prop where
  ff : (0 < f' ∧ f' ≤ 2 ^ 14) ∧ a' * a' + b' * b' = f' * f'
theorem nx_self {z : St} {f : Int} (ok : OK z f) : Nx z f f z.a z.b z.fl := ⟨ok.ff⟩
theorem Nx.bnd2 {z : St} {f f' a' b' : Int} {fl' : Bool} (ok : OK z f) (nx : Nx z f f' a' b' fl') :
    ((z.M1 - z.P0).natAbs ≤ 2 ^ 36 ∧ (z.M2 - z.P1).natAbs ≤ 2 ^ 36 ∧ a'.natAbs ≤ 2 ^ 14 ∧ b'.natAbs ≤ 2 ^ 14) ∧ (z.P0.natAbs ≤ 2 ^ 20 ∧ z.P1.natAbs ≤ 2 ^ 20 ∧ 0 ≤ z.sp ∧ z.sp ≤ 2 ^ 20) ∧ 0 ≤ f' ∧ a' * a' + b' * b' = f' * f' := by
  obtain ⟨x1, x2⟩ := xy_bnd ok
  obtain ⟨a1, a2⟩ := ab_bnd nx.ff.1.1 nx.ff.2
  have f1 := nx.ff.1
  have := ok.pp; have := ok.sp
  exact ⟨⟨by omega, by omega, by omega, by omega⟩, ⟨by omega, by omega, by omega, by omega⟩, by omega, nx.ff.2⟩
theorem Nx.bnd3 {z : St} {f f' a' b' : Int} {fl' : Bool} (ok : OK z f) (nx : Nx z f f' a' b' fl') :
    ((RX fl' a' b' (z.M1 - z.P0) (z.M2 - z.P1)).natAbs ≤ 2 ^ 36 ∧ (RY fl' a' b' (z.M1 - z.P0) (z.M2 - z.P1)).natAbs ≤ 2 ^ 36 ∧ a'.natAbs ≤ 2 ^ 14 ∧ b'.natAbs ≤ 2 ^ 14) ∧ (z.P0.natAbs ≤ 2 ^ 20 ∧ z.P1.natAbs ≤ 2 ^ 20 ∧ 0 ≤ z.sp ∧ f' * z.sp ≤ 2 ^ 20) ∧ (0 < f' ∧ f' ≤ 2 ^ 14 ∧ a' * a' + b' * b' = f' * f') ∧ (z.M1 - z.P0).natAbs ≤ 2 ^ 21 ∧ (z.M2 - z.P1).natAbs ≤ 2 ^ 21 ∧ z.sp ≤ 2 ^ 20 := by
  obtain ⟨x1, x2⟩ := xy_bnd ok
  obtain ⟨a1, a2⟩ := ab_bnd nx.ff.1.1 nx.ff.2
  have f1 := nx.ff.1
  obtain ⟨r1, r2⟩ := rxy_bnd fl' (a := a') (b := b') (by omega) (by omega) x1 x2
  have := ok.pp; have := ok.sp
  exact ⟨⟨r1, r2, by omega, by omega⟩, ⟨by omega, by omega, by omega, (fsp_bnd f1 ok.sp).2⟩, ⟨f1.1, f1.2, nx.ff.2⟩, x1, x2, by omega⟩
theorem fs_bnd {f sz : Int} (hf : 0 < f) (hs : 1 ≤ sz) (h : f * sz ≤ 16384) : 0 < f * sz ∧ f * sz ≤ 2 ^ 14 := ⟨Int.mul_pos hf (by omega), by omega⟩
theorem nx_t {z : St} {f c d sz a' b' f' : Int} (ok : OK z f) (h : (1 ≤ sz ∧ sz ≤ 13) ∧ c * c + d * d = sz * sz ∧ (-9 ≤ c ∧ c ≤ 9) ∧ (-12 ≤ d ∧ d ≤ 12)) (hfs : f * sz ≤ 16384) (ha : a' = c * z.a + d * z.b) (hb : b' = d * z.a - c * z.b) (hf : f' = f * sz) : Nx z f f' a' b' (!z.fl) := by
  have h1 := ok.ff
  refine ⟨⟨?_, ?_⟩⟩
  · rw [hf]; exact fs_bnd h1.1.1 h.1.1 hfs
  · rw [ha, hb, hf]
    have h2 := h1.2
    have h3 := h.2.1
    calc (c * z.a + d * z.b) * (c * z.a + d * z.b) + (d * z.a - c * z.b) * (d * z.a - c * z.b) = (c * c + d * d) * (z.a * z.a + z.b * z.b) := by grind
      _ = sz * sz * (f * f) := by rw [h2, h3]
      _ = f * sz * (f * sz) := by ac_rfl
theorem nx_f {z : St} {f c d sz a' b' f' : Int} (ok : OK z f) (h : (1 ≤ sz ∧ sz ≤ 13) ∧ c * c + d * d = sz * sz ∧ (-9 ≤ c ∧ c ≤ 9) ∧ (-12 ≤ d ∧ d ≤ 12)) (hfs : f * sz ≤ 16384) (ha : a' = c * z.a - d * z.b) (hb : b' = c * z.b + d * z.a) (hf : f' = f * sz) : Nx z f f' a' b' z.fl := by
  have h1 := ok.ff
  refine ⟨⟨?_, ?_⟩⟩
  · rw [hf]; exact fs_bnd h1.1.1 h.1.1 hfs
  · rw [ha, hb, hf]
    have h2 := h1.2
    have h3 := h.2.1
    calc (c * z.a - d * z.b) * (c * z.a - d * z.b) + (c * z.b + d * z.a) * (c * z.b + d * z.a) = (c * c + d * d) * (z.a * z.a + z.b * z.b) := by grind
      _ = sz * sz * (f * f) := by rw [h2, h3]
      _ = f * sz * (f * sz) := by ac_rfl
theorem comp_t {fl : Bool} {a b c d a' b' X Y : Int} (ha : a' = c * a + d * b) (hb : b' = d * a - c * b) : RX true c d (RX fl a b X Y) (RY fl a b X Y) = RX (!fl) a' b' X Y ∧ RY true c d (RX fl a b X Y) (RY fl a b X Y) = RY (!fl) a' b' X Y := by
  subst ha hb
  cases fl <;> simp only [RX, RY, if_true, Bool.false_eq_true, if_false, Bool.not_true, Bool.not_false] <;> constructor <;> grind
theorem comp_f {fl : Bool} {a b c d a' b' X Y : Int} (ha : a' = c * a - d * b) (hb : b' = c * b + d * a) : RX false c d (RX fl a b X Y) (RY fl a b X Y) = RX fl a' b' X Y ∧ RY false c d (RX fl a b X Y) (RY fl a b X Y) = RY fl a' b' X Y := by
  subst ha hb
  cases fl <;> simp only [RX, RY, if_true, Bool.false_eq_true, if_false] <;> constructor <;> grind
theorem sp_comp {sz f f' sp : Int} (h : f' = f * sz) : sz * (f * sp) = f' * sp := by rw [h]; ac_rfl
theorem dy_ah {ah : Int} (P : Int) (h : -1048576 < ah ∧ ah < 1048576) : Dy (m8 ah) (P + (ah - P)) 1071 := by
  rw [show P + (ah - P) = ah by omega]; exact dy_m8 h
theorem dy_ah2 {ah : Int} {x : UInt64} (P : Int) (e : m8 ah = x) (h : -1048576 < ah ∧ ah < 1048576) : Dy x (P + (ah - P)) 1071 := e ▸ dy_ah P h
theorem mk_gb {z : St} {f c d sz mo ah : Int} {x : UInt64} (ok : OK z f) (hx : Dy x (z.sp + mo) 1071) (h : (1 ≤ sz ∧ sz ≤ 13) ∧ c * c + d * d = sz * sz ∧ (-9 ≤ c ∧ c ≤ 9) ∧ (-12 ≤ d ∧ d ≤ 12)) (hm : -1 ≤ mo ∧ mo ≤ 1) (hah : -1048576 < ah ∧ ah < 1048576) :
    GB z.s1 x c d sz z.sp (z.sp + mo) (z.M1 - z.P0) (ah - z.P1) z.P0 z.P1 := by
  have h1 := ok.sp
  have h2 := ok.pp
  exact ⟨ok.ds1, hx, h1, by omega, h.2.2.1, h.2.2.2, ⟨h.1, h.2.1⟩, (xy_bnd ok).1, by omega, by omega, by omega⟩
theorem ok_next {z : St} {f f' a' b' : Int} {fl' : Bool} {PR y1 g1 y2 g2 : Addr} {n1 r1 n2 r2 : UInt64} {k11 k12 k13 k14 ta tb ts : Tok} (ok : OK z f) (nx : Nx z f f' a' b' fl')
    (dn1 : Dy n1 (z.P0 + RX fl' a' b' (z.M1 - z.P0) (z.M2 - z.P1)) 1071) (dr1 : Dy r1 (f' * z.sp) 1071) (dn2 : Dy n2 (z.P1 + RY fl' a' b' (z.M1 - z.P0) (z.M2 - z.P1)) 1071) (dr2 : Dy r2 (f' * z.sp) 1071) (t1 : 0 < k11) (t2 : 0 < k12) (t3 : 0 < k13) (t4 : 0 < k14) :
    OK ⟨z.FL, z.x1, z.e1, z.x2, z.e2, z.PL, z.DL, z.l1, z.l2, PR, y1, g1, y2, g2, z.m1, z.s1, z.m2, z.s2, z.p0, z.p1, z.d1, z.d2, z.d3, z.d4, n1, r1, n2, r2, z.k1, z.k2, z.k3, z.k4, z.k5, z.k6, z.k7, z.k8, z.k9, z.k10, k11, k12, k13, k14, ta, tb, ts, a', b', z.sp, z.M1, z.M2, z.P0, z.P1, fl'⟩ f' :=
  ⟨ok.sp, ok.mm, ok.pp, nx.ff, ok.dm1, ok.ds1, ok.dm2, ok.ds2, ok.dp0, ok.dp1, ok.dd1, ok.dd2, ok.dd3, ok.dd4, dn1, dr1, dn2, dr2, ⟨ok.tk.1, ok.tk.2.1, t1, t2, t3, t4⟩⟩
open PySem.SeqAt in
theorem ne_bools {prog : Program} {w : World} {A : Around} {E : Value → Shared → Prop} {s : Shared} {h₀ : Heap} {L : Addr} {news : List (Addr × Obj)} {Q : Value → Shared → Prop} {l k : Addr} {a b c d : Bool} (N : News h₀ L s.heap news)
    (h0 : (l, W.listOf #[Value.bool a, Value.bool b] 0) ∈ news) (g0 : (k, W.listOf #[Value.bool c, Value.bool d] 0) ∈ news) (e1 : a = c) (e2 : b = d) (hu : A.units < cLine) (h : Q (.bool false) s) : wpAny (model prog w) A (compareOp .NotEq (.ref l) (.ref k)) Q E s := by
  subst e1 e2
  have := RcNeAt.lists (A := A) (isList_news N h0) (isList_news N g0) rfl hu (e := fun _ => true) (fun j h1' h2' => match j, h1', h2' with
    | 0, _, _ => by have := EqAt.bool_bool (A := A.in1) (s := s) a a; rwa [beq_self_eq_true] at this
    | 1, _, _ => by have := EqAt.bool_bool (A := A.in1) (s := s) b b; rwa [beq_self_eq_true] at this)
  exact this prog w E Q h
theorem end_apart {h₀ h : Heap} {L I D : Addr} {oI o1 : Obj} {news : List (Addr × Obj)} {z : St} (N : News h₀ L h news) (hI : (I, oI) ∈ news) (hc : oI.cls = .type "range_iterator") (ho : o1.cls = .type "list") (hs : ∀ p ∈ (D, o1) :: led z, p ∈ news) : ∀ p ∈ (D, o1) :: led z, p.1 ≠ I := by
  intro p hp
  refine news_apart N hI (hs p hp) ?_
  rw [hc]
  simp only [led, List.mem_cons, List.not_mem_nil, or_false] at hp
  rcases hp with rfl | rfl | rfl | rfl | rfl | rfl | rfl | rfl | rfl | rfl | rfl | rfl | rfl | rfl | rfl
  · show o1.cls ≠ _
    rw [ho]; decide
  all_goals (first | (show Value.type _ ≠ _; decide) | (show Value.ref _ ≠ _; exact fun h => nomatch h))
theorem turn_end {h₀ h' : Heap} {L I D : Addr} {oI o1 : Obj} {s₁ : Shared} {tk : Nat} {m' : Str → Option Value} {news : List (Addr × Obj)} {f' : Int} {tf : Tok} {z : St} (F : Fr h₀ L h' m') (N : News h₀ L h' news) (hI : (I, oI) ∈ news) (hc : oI.cls = .type "range_iterator") (ho : o1.cls = .type "list")
    (a0 : m' (Str.ofString "row") = some (.ref D)) (a1 : m' (Str.ofString "far") = some (.int f' tf)) (ok : OK z f') (bn : BN z m') (hs : ∀ p ∈ (D, o1) :: led z, p ∈ news) : TEnd h₀ L (J1 D o1) I oI s₁ { s₁ with heap := h', toks := tk } :=
  TEnd.intro F N hI hs (end_apart N hI hc ho hs) ⟨f', tf, m', led z, mRF_of a0 a1, rfl, .inr ⟨z, bn, rfl, ok⟩⟩
theorem turn_end2 {h₀ h' : Heap} {L I D : Addr} {oI o1 : Obj} {s₁ : Shared} {tk : Nat} {m' : Str → Option Value} {news : List (Addr × Obj)} {f' : Int} {tf : Tok} {FL x1 e1 x2 e2 PL DL l1 l2 PR y1 g1 y2 g2 : Addr} {m1 s1 m2 s2 p0 p1 d1 d2 d3 d4 n1 r1 n2 r2 : UInt64} {k1 k2 k3 k4 k5 k6 k7 k8 k9 k10 k11 k12 k13 k14 ta tb ts : Tok} {a b sp M1 M2 P0 P1 : Int} {fl : Bool} (F : Fr h₀ L h' m') (N : News h₀ L h' news) (hI : (I, oI) ∈ news) (hc : oI.cls = .type "range_iterator") (ho : o1.cls = .type "list") (hD : (D, o1) ∈ news)
    (a0 : m' (Str.ofString "row") = some (.ref D)) (a1 : m' (Str.ofString "far") = some (.int f' tf)) (a9 : m' (Str.ofString "first") = some (.ref FL)) (a10 : m' (Str.ofString "point") = some (.ref PL)) (a11 : m' (Str.ofString "due") = some (.ref DL)) (a12 : m' (Str.ofString "pair") = some (.ref PR)) (a13 : m' (Str.ofString "a") = some (.int a ta)) (a14 : m' (Str.ofString "b") = some (.int b tb)) (a15 : m' (Str.ofString "flipped") = some (.bool fl)) (a16 : m' (Str.ofString "spread") = some (.int sp ts)) (b0 : (FL, W.listOf #[Value.ref x1, Value.ref x2] 0) ∈ news) (b1 : (x1, ndO e1 (.float m1 k1) (.float s1 k2)) ∈ news) (b2 : (e1, dictOf [] 0) ∈ news) (b3 : (x2, ndO e2 (.float m2 k3) (.float s2 k4)) ∈ news) (b4 : (e2, dictOf [] 0) ∈ news) (b5 : (PL, W.listOf #[Value.float p0 k5, Value.float p1 k6] 0) ∈ news) (b6 : (DL, PyProof.Rows.LCg.lst [Value.ref l1, Value.ref l2]) ∈ news) (b7 : (l1, W.listOf #[Value.float d1 k7, Value.float d2 k8] 0) ∈ news) (b8 : (l2, W.listOf #[Value.float d3 k9, Value.float d4 k10] 0) ∈ news) (b9 : (PR, W.listOf #[Value.ref y1, Value.ref y2] 0) ∈ news) (b10 : (y1, ndO g1 (.float n1 k11) (.float r1 k12)) ∈ news) (b11 : (g1, dictOf [] 0) ∈ news) (b12 : (y2, ndO g2 (.float n2 k13) (.float r2 k14)) ∈ news) (b13 : (g2, dictOf [] 0) ∈ news) (ok : OK ⟨FL, x1, e1, x2, e2, PL, DL, l1, l2, PR, y1, g1, y2, g2, m1, s1, m2, s2, p0, p1, d1, d2, d3, d4, n1, r1, n2, r2, k1, k2, k3, k4, k5, k6, k7, k8, k9, k10, k11, k12, k13, k14, ta, tb, ts, a, b, sp, M1, M2, P0, P1, fl⟩ f') : TEnd h₀ L (J1 D o1) I oI s₁ { s₁ with heap := h', toks := tk } :=
  turn_end F N hI hc ho a0 a1 ok ⟨a9, a10, a11, a12, a13, a14, a15, a16⟩ (by
    intro p hp
    simp only [led, List.mem_cons, List.not_mem_nil, or_false] at hp
    rcases hp with rfl | rfl | rfl | rfl | rfl | rfl | rfl | rfl | rfl | rfl | rfl | rfl | rfl | rfl | rfl <;> first | exact hD | exact b0 | exact b1 | exact b2 | exact b3 | exact b4 | exact b5 | exact b6 | exact b7 | exact b8 | exact b9 | exact b10 | exact b11 | exact b12 | exact b13)
theorem dec_i2 {sp mo : Int} {P : Prop} [Decidable P] (h : mo = 0) : decide (sp + mo = sp ∨ P) = (mo == 0) := by
  rw [decide_eq_true (.inl (by omega)), h]; rfl
theorem eq_both {M m S σ : UInt64} {n : Int} {k : Nat} {b : Bool} (h1 : Dy M n k) (h2 : Dy m n k) (h3 : (Float64.cmp S σ == some Ordering.eq) = b) : (Float64.cmp M m == some Ordering.eq && Float64.cmp S σ == some Ordering.eq) = b := by
  rw [cmp_eq h1 h2, decide_eq_true rfl, Bool.true_and]; exact h3
theorem dec_ii {sp mo x : Int} (h : ¬ mo = 0) : decide (sp + mo = sp ∨ x = 0) = (x == 0) := by
  by_cases hx : x = 0
  · rw [decide_eq_true (.inr hx), hx]; rfl
  · rw [decide_eq_false (by omega)]; symm; exact beq_eq_false_iff_ne.mpr hx
theorem div8 {prog : Program} {w : World} {A : Around} {E : Value → Shared → Prop} {s : Shared} {Q : Value → Shared → Prop} {a : Int} {t u : Tok} (hA : A.handled = none) (hfit : a.natAbs < 2 ^ 62) (h : Q (.float (m8 a) s.toks) { s with toks := s.toks + 1 }) : wpAny (model prog w) A (binaryOp .Div (.int a t) (.int 8 u)) Q E s :=
  Flt.div_ii_fits hA (Nat.lt_trans hfit (by decide +kernel)) (fun h => absurd h (by decide)) fun _ _ => h
theorem div8g {prog : Program} {w : World} {A : Around} {E : Value → Shared → Prop} {s : Shared} {Q : Value → Shared → Prop} {sp mo y : Int} {t u : Tok} (hA : A.handled = none) (hm : mo = Int.fmod y 3 - 1) (hs : 1 ≤ sp ∧ sp ≤ 63) (h : ∀ x, Dy x (sp + mo) 1071 → NN x → Q (.float x s.toks) { s with toks := s.toks + 1 }) : wpAny (model prog w) A (binaryOp .Div (.int (sp + mo) t) (.int 8 u)) Q E s := by
  have h1 := Int.fmod_nonneg_of_pos y (b := 3) (by decide)
  have h2 := Int.fmod_lt_of_pos y (b := 3) (by decide)
  have hd : Dy (m8 (sp + mo)) (sp + mo) 1071 := dy_m8 (by omega)
  exact div8 hA (by omega) (h _ hd (nn_dy hd (by omega)))
theorem fm1024 (x : Int) : (Int.fmod x 1024).natAbs < 2 ^ 62 := by
  have h1 := Int.fmod_nonneg_of_pos x (b := 1024) (by decide)
  have h2 := Int.fmod_lt_of_pos x (b := 1024) (by decide)
  omega
theorem fm63 {sp n : Int} (h : sp = 1 + Int.fmod n 63) : sp.natAbs < 2 ^ 62 := by
  have h1 := Int.fmod_nonneg_of_pos n (b := 63) (by decide)
  have h2 := Int.fmod_lt_of_pos n (b := 63) (by decide)
  omega
theorem mul_small {c d : Int} (h : (-9 ≤ c ∧ c ≤ 9) ∧ (-12 ≤ d ∧ d ≤ 12)) : IntMulOk c d := IntMulOk.of_left (intBits_le_64 (by omega) (by omega))
theorem more_bnd {mo x : Int} (h : mo = Int.fmod x 3 - 1) : -1 ≤ mo ∧ mo ≤ 1 := by
  have h1 := Int.fmod_nonneg_of_pos x (b := 3) (by decide)
  have h2 := Int.fmod_lt_of_pos x (b := 3) (by decide)
  omega
end Mine

end L1b
section W1
open PySem PySem.W PySem.Calls PyProof.Rows
set_option Elab.async false
set_option linter.unusedVariables false
namespace Mine
structure GoOn : Prop where
local macro_rules | `(tactic| walk_at "PP") => `(tactic| first | assumption | exact Nat.zero_lt_succ _ | (simp only [List.length_cons, List.length_nil]; exact Nat.zero_lt_succ _) | omega)
local macro_rules | `(tactic| walk_at "HR") => `(tactic| first | omega | (simp only [depth_under_make, depth_under_kw, depth_in1, depth_deeper, depth_caller]; first | decide | omega))
local macro_rules | `(tactic| walk_at "call ref") => `(tactic| (k_here; (with_reducible show wpAny _ _ (call (Value.ref 270) [Value.float _ _, Value.float _ _] _) _ _ _); k_dflt (refine' mkND (by k_asm) (by k_asm) (by k_asm) (by k_asm) (by exact rfl) (by exact rfl) (by walk_at "HR") (by first | assumption | (rename Flt.Hid (_ = 1 + Int.fmod _ 63) => hs9; exact nn_m8 hs9.out) | (rename Flt.Hid (_ = Int.fmod _ 3 - 1) => hm9; exact nn_third hm9.out (by assumption))) ?_ (by k_in)); intros; (try k_sweep)))
local macro_rules | `(tactic| walk_at "call ref") => `(tactic| (k_here; (with_reducible show wpAny _ _ (call (Value.ref 281) [Value.int _ _, Value.int _ _] _) _ _ _); k_dflt (refine' near_c (by k_asm) (by k_asm) (by k_asm) (by k_asm) (by exact rfl) (by exact rfl) (by walk_at "HR") (by decide) ?_ (by k_in)); intro v' h' tk' t' k0' hv1' hv2' F' N'; (try simp only [Int.reduceToNat, Int.reducePow, Int.reduceNeg] at hv1' hv2'); (try k_sweep)))
local macro_rules | `(tactic| walk_at "call ref") => `(tactic| (k_here; (with_reducible show wpAny _ _ (call (Value.ref 300) _ _) _ _ _); k_dflt (refine' told_c (by k_asm) (by k_asm) (by k_asm) (by k_asm) (by exact rfl) (by exact rfl) (by walk_at "HR") (by k_mem) (by k_mem) (by k_mem) (by k_mem) (by k_mem) ?_ (by k_in)); intros; (try k_sweep)))
local macro_rules | `(tactic| walk_at "compareOp Eq ref ref") => `(tactic| (k_here; k_dflt (refine' eq_rr (by k_asm) (by k_asm) (by k_asm) (by k_asm) (by exact rfl) (by exact rfl) (by walk_at "HR") (by k_mem) (by k_mem) (by k_mem) (by k_mem) (by decide) ?_ (by k_in)); intros; (try k_sweep)))
local macro_rules | `(tactic| walk_at "execs cons") => `(tactic| (k_here; (first | ((with_reducible refine toks_genP (by walk_at "PP") ?_); intro tk' hk') | ((with_reducible refine toks_gen1 ?_); intro tk')); (with_reducible refine wpAny_execs_cons ?_); (try dsimp only)))
local macro_rules | `(tactic| walk_at "execs nil") => `(tactic| (k_here; (first | ((with_reducible refine toks_genP (by walk_at "PP") ?_); intro tk' hk') | ((with_reducible refine toks_gen1 ?_); intro tk')); (with_reducible refine wpAny_execs_nil ?_); (try dsimp only)))
local macro_rules | `(tactic| k_all) => `(tactic| assumption)
local macro_rules | `(tactic| k_mem) => `(tactic| assumption)
local macro_rules | `(tactic| lcg_sub) => `(tactic| (intro p hp; (repeat (refine List.Mem.tail _ ?_)); exact hp))
local macro_rules | `(tactic| walk_at "exec Return some") => `(tactic| (k_here; (with_reducible show wpAny _ _ (exec (Stmt.Return (some (PySem.Expr.Constant (Const.bool false) _ _)) _) _) _ _ _); refine Stop.of ?_))
local macro_rules | `(tactic| walk_at "exec For Name Call cons nil") => `(tactic| (k_here; (rename Fr _ _ _ _ => lF'); (with_unfolding_all refine' For_turns lF' ?_; k_whole)))
local macro_rules | `(tactic| walk_at "eval Call Name") => `(tactic| (k_here; (with_reducible show wpAny _ _ (eval (PySem.Expr.Call (PySem.Expr.Name _ _) _ [] _) _) _ _ _); refine Call_ ?_))
local macro_rules | `(tactic| walk_at "pyIter ref") => `(tactic| (k_here; (with_reducible show wpAny _ _ (pyIter (Value.ref _)) (fun it s₂ => TurnsAt _ _ _ _ _ _ _ _ _ it s₂) _ _); refine Stop.of ?_))
local macro_rules | `(tactic| walk_at "subscriptTail Name") => `(tactic| (k_here; (with_reducible show wpAny _ _ (subscriptTail (PySem.Expr.Name _ _) _ (Value.ref _) (Value.int _ _)) _ _ _); (rename IntsAre _ _ => iaX); (rename Flt.Hid _ => hidX); have hX := hidX.out; k_dflt (refine' item_any (by k_asm) (by k_mem) iaX (by simp only [List.length_append, List.length_cons, List.length_nil]; omega) (by simp only [List.length_append, List.length_cons, List.length_nil]; omega) (by simp only [List.length_append, List.length_cons, List.length_nil]; omega) ?_ (by with_unfolding_all rfl)); clear hX; intro v' t'))
local macro_rules | `(tactic| walk_at "subscriptTail Name") => `(tactic| (k_here; (with_reducible show wpAny _ _ (subscriptTail (PySem.Expr.Name _ _) _ (Value.ref _) (Value.int _ _)) _ _ _); k_dflt (refine' item_lit (by k_asm) (by k_mem) (by decide) (by decide) (by rfl) ?_ (by with_unfolding_all rfl))))
local macro_rules | `(tactic| walk_at "compareOp NotEq ref ref") => `(tactic| (k_here; k_dflt (refine' ne_bools (by k_asm) (by k_mem) (by k_mem) (by refine (eq_both (by assumption) (by assumption) (by assumption)).trans ?_; first | exact dec_i2 (by assumption) | exact dec_i (by assumption) | exact dec_ii (by assumption)) (by refine (eq_both (by assumption) (by assumption) (by assumption)).trans ?_; first | exact dec_i2 (by assumption) | exact dec_i (by assumption) | exact dec_ii (by assumption)) (by first | decide | exact Nat.le_of_ble_eq_true rfl | units_room) ?_)))
local macro_rules | `(tactic| walk_at "exec Assign") => `(tactic| (k_here; (with_reducible show wpAny _ _ (exec (Stmt.Assign [PySem.Expr.Name _ _] (PySem.Expr.Call (PySem.Expr.Name _ _) [_, _, _, PySem.Expr.Call _ _ _ _, _] _ _) _) _) _ _ _); (fail_if_success (rename GB _ _ _ _ _ _ _ _ _ _ _ => gbX)); refine Stop.of ?_))
local macro_rules | `(tactic| walk_at "storeName") => `(tactic| (k_here; (first
  | (with_reducible show wpAny _ _ (storeName _ _ (Value.int (HAdd.hAdd _ _) _)) _ _ _) | (with_reducible show wpAny _ _ (storeName _ _ (Value.int (HSub.hSub _ _) _)) _ _ _) | (with_reducible show wpAny _ _ (storeName _ _ (Value.int (HMul.hMul _ _) _)) _ _ _)
  | (with_reducible show wpAny _ _ (storeName _ _ (Value.int (Int.fmod _ _) _)) _ _ _) | (with_reducible show wpAny _ _ (storeName _ _ (Value.int (Int.fdiv _ _) _)) _ _ _)); k_dflt (refine store_gen ?_; intro v' t' hv'; refine' storeX_L ?F ?N ?_ ?a ?b; (case F => k_asm); (case N => k_asm); (case a => rfl); (case b => rfl); k_whole; intro h' F' N'; (try k_sweep))))
local macro_rules | `(tactic| walk_at "binaryOp Div int int") => `(tactic| (k_here; (with_reducible show wpAny _ _ (binaryOp Operator.Div (Value.int _ _) (Value.int 8 _)) _ _ _); k_dflt (refine div8 (by rfl) ?hf ?_; (case hf => first | omega | exact fm1024 _ | (rename Flt.Hid (_ = 1 + Int.fmod _ 63) => hs9; exact fm63 hs9.out) | (rename Flt.Hid (_ = Int.fmod _ 3 - 1) => hm9; exact fm_third hm9.out (by assumption)))); (try dsimp only)))
local macro_rules | `(tactic| walk_at "binaryOp Div int int") => `(tactic| (k_here; (with_reducible show wpAny _ _ (binaryOp Operator.Div (Value.int (HAdd.hAdd _ _) _) (Value.int 8 _)) _ _ _); (rename Flt.Hid (_ = Int.fmod _ 3 - 1) => hm9); k_dflt (refine div8g (by rfl) hm9.out (by assumption) ?_); intro x' dx3' nx3'; (try dsimp only)))
local macro_rules | `(tactic| walk_at "binaryOp Mod int int") => `(tactic| first | ((with_reducible refine mod_int' ?_ ?_); first | decide | assumption | omega) | (refine Stop.of ?_))
local macro_rules | `(tactic| walk_at "binaryOp Mult int int") => `(tactic| first | (with_reducible refine mul_int ?_ (by with_reducible assumption)) | (with_reducible refine mul_int ?_) | (refine Stop.of ?_))

local macro_rules | `(tactic| walk_at "exec If") => `(tactic| refine Stop.of ?_)
local macro_rules | `(tactic| walk_at "call ref") => `(tactic| (k_here; (first | (with_reducible show wpAny _ _ (call (Value.ref 288) _ _) _ _ _) | (with_reducible show wpAny _ _ (call (Value.ref 295) _ _) _ _ _)); refine Stop.of ?_))
local macro_rules | `(tactic| walk_at "compareOp NotEq ref ref") => `(tactic| ((fail_if_success (rename GB _ _ _ _ _ _ _ _ _ _ _ => gbX)); refine Stop.of ?_))
theorem walkT1.tw17792116332817158911 : True := trivial
theorem walkT1.tw5986654891474743071 : True := trivial
set_option Elab.async true in
set_option maxRecDepth 100000 in
set_option maxHeartbeats 0 in
theorem walkT1 : T1 := by
  unfold T1
  k_go0
  all_goals (try k_fold)
  k_steps
  refine Stop.goes ?_
  rename IsRange _ _ _ _ _ _ _ _ => rgX
  rename Fr _ _ _ _ => lF
  rename News _ _ _ _ => lN
  with_unfolding_all refine' range_law1 (by rfl) rgX ?small (by exact rangeSize_nat _ _) lF lN (by rfl) (by rfl) ?far ?turn ?done
  case far => decide
  case small => exact small_one (by omega) (by omega) (by omega) (by omega)
  case done =>
    intro m0 h tk nx F' N'
    clear lF lN
    k_steps
  intro i t f tf u nx' h tk I oI hi hcar F' N' hI hIc
  clear lF lN
  dsimp only
  try (rename Ground _ _ _ _ _ _ _ _ _ => c1; clear c1)
  try (rename Hook.says _ _ _ => c1; clear c1)
  try (rename LooseAre _ _ _ => c1; clear c1)
  try (rename Glob _ _ _ _ _ _ _ => c1; clear c1)
  try (rename Tables _ _ _ _ => c1; clear c1)
  try (rename TopE _ _ _ _ => c1; clear c1)
  try (rename TopW _ _ _ => c1; clear c1)
  try (rename BMod _ _ _ _ _ => c1; clear c1)
  try (rename Heap.CodeRec _ _ _ => c1; clear c1)
  try (rename CellsAre _ _ _ => c1; clear c1)
  try (rename Dflts _ _ _ => c1; clear c1)
  try (rename ReadsAll _ _ _ _ => c1; clear c1)
  try (rename Reads _ _ _ _ => c1; clear c1)
  try (rename ReadsAllW _ _ _ _ _ _ => c1; clear c1)
  rename IntsAre _ _ => ia1
  clear rgX
  k_steps
  refine Stop.goes ?_
  rename Flt.Hid (_ = 1 + Int.fmod _ 3) => hp
  rename Flt.Hid (_ = Int.fmod _ 5 - 2) => hq
  have hp2 := p1_bnd hp.out
  have hq2 := q1_bnd hq.out
  have hf2 := car_bnd hcar
  k_steps
  refine Stop.goes ?_
  rename Flt.Hid (_ = _ * _ - _ * _) => hc
  rename Flt.Hid (_ = 2 * _ * _) => hd
  rename Flt.Hid (_ = _ * _ + _ * _) => hsz
  have hcds := Flt.Hid.mk (cds_bnd hp2 hq2 hc.out hd.out hsz.out)
  rename Fr _ _ _ _ => lF
  rename News _ _ _ _ => lN
  refine' if_cut1 I lF lN ?ua0 ?ua2 ?ua3 ?ua4 ?ua5 ?ua6 ?ua7 ?ua8 ?uI ?uD ?first ?rest
  case ua0 => rfl
  case ua2 => rfl
  case ua3 => rfl
  case ua4 => rfl
  case ua5 => rfl
  case ua6 => rfl
  case ua7 => rfl
  case ua8 => rfl
  case uI => k_mem
  case uD => k_mem
  case first =>
    refine wpAny_If ?_
    k_steps
    · refine' mid_intro ?utF ?utN ?utk ?utI ?utD ?uta0 ?uta1 ?uta2 ?uta3 ?uta4 ?uta5 ?uta6 ?uta7 ?uta8 ?uta9 ?uta10 ?uta11 ?uta12 ?uta13 ?uta14 ?uta15 ?uta16 ?utb0 ?utb1 ?utb2 ?utb3 ?utb4 ?utb5 ?utb6 ?utb7 ?utb8 ?utb9 ?utb10 ?utb11 ?utb12 ?utb13 (ok_start ?uths ?uth1 ?uth2 ?utp1 ?utp2 ?utp3 ?utp4) ?utfs
      (case utF => assumption); (case utN => assumption); (case utk => first | assumption | exact Nat.zero_lt_succ _ | (simp only [List.length_cons, List.length_nil]; exact Nat.zero_lt_succ _) | omega); (case uta0 => rfl); (case uta1 => rfl); (case uta2 => rfl); (case uta3 => rfl); (case uta4 => rfl); (case uta5 => rfl); (case uta6 => rfl); (case uta7 => rfl); (case uta8 => rfl); (case uta9 => rfl); (case uta10 => rfl); (case uta11 => rfl); (case uta12 => rfl); (case uta13 => rfl); (case uta14 => rfl); (case uta15 => rfl); (case uta16 => rfl); (case utI => k_mem); (case utD => k_mem); (case utb0 => k_mem); (case utb1 => k_mem); (case utb2 => k_mem); (case utb3 => k_mem); (case utb4 => k_mem); (case utb5 => k_mem); (case utb6 => k_mem); (case utb7 => k_mem); (case utb8 => k_mem); (case utb9 => k_mem); (case utb10 => k_mem); (case utb11 => k_mem); (case utb12 => k_mem); (case utb13 => k_mem)
      case uths => (rename Flt.Hid (_ = 1 + Int.fmod _ 63) => hs9; exact hs9.out)
      case uth1 => exact ⟨by assumption, by assumption⟩
      case uth2 => exact ⟨by assumption, by assumption⟩
      all_goals first | (have h13 := hcds.out.1; omega) | (first | assumption | exact Nat.zero_lt_succ _ | (simp only [List.length_cons, List.length_nil]; exact Nat.zero_lt_succ _) | omega)
    · rename ¬ (_ < _) => hno
      simp only [Int.reduceToNat, Int.reducePow] at hno
      rcases hcar with hf | ⟨z, hb, hn, ok⟩
      · exfalso
        have h13 := hcds.out.1
        subst hf
        omega
      · subst hn
        refine' mid_intro ?ufF ?ufN ?ufk ?ufI ?ufD ?ufa0 ?ufa1 ?ufa2 ?ufa3 ?ufa4 ?ufa5 ?ufa6 ?ufa7 ?ufa8 ?ufa9 ?ufa10 ?ufa11 ?ufa12 ?ufa13 ?ufa14 ?ufa15 ?ufa16 ?ufb0 ?ufb1 ?ufb2 ?ufb3 ?ufb4 ?ufb5 ?ufb6 ?ufb7 ?ufb8 ?ufb9 ?ufb10 ?ufb11 ?ufb12 ?ufb13 ok ?uffs
        (case ufF => assumption); (case ufN => assumption); (case ufk => first | assumption | exact Nat.zero_lt_succ _ | (simp only [List.length_cons, List.length_nil]; exact Nat.zero_lt_succ _) | omega); (case ufa0 => rfl); (case ufa1 => rfl); (case ufa2 => rfl); (case ufa3 => rfl); (case ufa4 => rfl); (case ufa5 => rfl); (case ufa6 => rfl); (case ufa7 => rfl); (case ufa8 => rfl); (case ufa9 => exact hb.1); (case ufa10 => exact hb.2.1); (case ufa11 => exact hb.2.2.1); (case ufa12 => exact hb.2.2.2.1); (case ufa13 => exact hb.2.2.2.2.1); (case ufa14 => exact hb.2.2.2.2.2.1); (case ufa15 => exact hb.2.2.2.2.2.2.1); (case ufa16 => exact hb.2.2.2.2.2.2.2); (case ufI => k_mem); (case ufD => k_mem); (case ufb0 => k_mem); (case ufb1 => k_mem); (case ufb2 => k_mem); (case ufb3 => k_mem); (case ufb4 => k_mem); (case ufb5 => k_mem); (case ufb6 => k_mem); (case ufb7 => k_mem); (case ufb8 => k_mem); (case ufb9 => k_mem); (case ufb10 => k_mem); (case ufb11 => k_mem); (case ufb12 => k_mem); (case ufb13 => k_mem)
        case uffs => omega
  case rest =>
    clear lF lN hcar
    intro h2 tk2 z f2 tf2 u2 ahF hah hk2 F2 N2 ok hfs
    have hsp := ok.sp
    have dm1 := ok.dm1; have ds1 := ok.ds1; have dm2 := ok.dm2; have ds2 := ok.ds2; have dp0 := ok.dp0; have dp1 := ok.dp1; have dd1 := ok.dd1; have dd2 := ok.dd2; have dd3 := ok.dd3; have dd4 := ok.dd4; have dn1 := ok.dn1; have dr1 := ok.dr1; have dn2 := ok.dn2; have dr2 := ok.dr2
    obtain ⟨⟨tk1, tk2', tk3, tk4⟩, ⟨tk7, tk8, tk9, tk10⟩, tk11, tk12, tk13, tk14⟩ := ok.tk
    have hb1 := bnd1 ok hcds.out
    have hsz13 := hcds.out.1
    generalize hmir : (Int.fmod _ 2 == 1) = mir at F2
    dsimp only
    k_steps
    refine Stop.goes ?_
    refine' turnD ?caB ?caF ?caN ?caT ?cahf ?cahke ?cahr ?cahp ?cahq ?cahx ?cahdx ?cahy ?cahdy ?cahp2 ?cahp4 ?cah1 ?cah2 ?cah3 ?cah4 ?caq0 ?caq1 ?cahb ?_ ?caX
    case caB => k_asm
    case caF => k_asm
    case caN => k_asm
    case caT => k_asm
    case cahf => exact rfl
    case cahke => exact rfl
    case cahr => (simp only [depth_under_make, depth_under_kw, depth_in1, depth_deeper, depth_caller]; first | decide | omega)
    case cahp => k_mem
    case cahq => k_mem
    case cahx => k_mem
    case cahdx => k_mem
    case cahy => k_mem
    case cahdy => k_mem
    case cahp2 => first | assumption | exact Nat.zero_lt_succ _ | (simp only [List.length_cons, List.length_nil]; exact Nat.zero_lt_succ _) | omega
    case cahp4 => first | assumption | exact Nat.zero_lt_succ _ | (simp only [List.length_cons, List.length_nil]; exact Nat.zero_lt_succ _) | omega
    case cah1 => assumption
    case cah2 => assumption
    case cah3 => assumption
    case cah4 => assumption
    case caq0 => assumption
    case caq1 => assumption
    case cahb => assumption
    case caX => k_in
    intro l' x1' d1' x2' d2' h' tk' M1' S1' M2' S2' v1' v2' v3' v4' k0' k1' k2' k3' k4' dM1' dS1' dM2' dS2' F' N'
    (try k_sweep)
    k_steps
    refine Stop.goes ?_
    rename Dy _ (_ + RY _ _ _ _ _) _ => dM2
    rename Dy _ (_ + RX _ _ _ _ _) _ => dM1
    rename Dy _ (_ * (_ * _)) _ => dS2
    rw [sp_comp (f' := f2 * _) rfl] at dS2
    rename Dy _ (_ * (_ * _)) _ => dS1
    rw [sp_comp (f' := f2 * _) rfl] at dS1
    rename Fr _ _ _ _ => lF
    rename News _ _ _ _ => lN
    refine' if_cut2 I lF lN ?va0 ?va2 ?va3 ?va4 ?va5 ?va6 ?va7 ?va8 ?vI ?vD ?vfirst ?vrest
    case va0 => rfl
    case va2 => rfl
    case va3 => rfl
    case va4 => rfl
    case va5 => rfl
    case va6 => rfl
    case va7 => rfl
    case va8 => rfl
    case vI => k_mem
    case vD => k_mem
    case vfirst =>
      cases mir
      · refine wpAny_If ?_
        k_steps
        rename Flt.Hid (_ = _ * _ - _ * _) => ha
        rename Flt.Hid (_ = _ * _ + _ * _) => hb
        have nx := nx_f ok hcds.out hfs ha.out hb.out rfl
        rw [(comp_f (fl := z.fl) (X := z.M1 - z.P0) (Y := z.M2 - z.P1) ha.out hb.out).1] at dM1
        rw [(comp_f (fl := z.fl) (X := z.M1 - z.P0) (Y := z.M2 - z.P1) ha.out hb.out).2] at dM2
        refine' mid_intro2 ?wfF ?wfN ?wfk ?wfI ?wfD ?wfa0 ?wfa1 ?wfa2 ?wfa3 ?wfa4 ?wfa5 ?wfa6 ?wfa7 ?wfa8 ?wfa9 ?wfa10 ?wfa11 ?wfa12 ?wfa13 ?wfa14 ?wfa15 ?wfa16 ?wfb0 ?wfb1 ?wfb2 ?wfb3 ?wfb4 ?wfb5 ?wfb6 ?wfb7 ?wfb8 ?wfb9 ?wfb10 ?wfb11 ?wfb12 ?wfb13 (ok_next ok nx dM1 dS1 dM2 dS2 ?wft1 ?wft2 ?wft3 ?wft4)
        (case wfF => assumption); (case wfN => assumption); (case wfk => first | assumption | exact Nat.zero_lt_succ _ | (simp only [List.length_cons, List.length_nil]; exact Nat.zero_lt_succ _) | omega); (case wfa0 => exact rfl); (case wfa1 => exact rfl); (case wfa2 => exact rfl); (case wfa3 => exact rfl); (case wfa4 => exact rfl); (case wfa5 => exact rfl); (case wfa6 => exact rfl); (case wfa7 => exact rfl); (case wfa8 => exact rfl); (case wfa9 => exact rfl); (case wfa10 => exact rfl); (case wfa11 => exact rfl); (case wfa12 => exact rfl); (case wfa13 => exact rfl); (case wfa14 => exact rfl); (case wfa15 => exact rfl); (case wfa16 => exact rfl); (case wfI => k_mem); (case wfD => k_mem); (case wfb0 => k_mem); (case wfb1 => k_mem); (case wfb2 => k_mem); (case wfb3 => k_mem); (case wfb4 => k_mem); (case wfb5 => k_mem); (case wfb6 => k_mem); (case wfb7 => k_mem); (case wfb8 => k_mem); (case wfb9 => k_mem); (case wfb10 => k_mem); (case wfb11 => k_mem); (case wfb12 => k_mem); (case wfb13 => k_mem)
        case wft1 => first | assumption | exact Nat.zero_lt_succ _ | (simp only [List.length_cons, List.length_nil]; exact Nat.zero_lt_succ _) | omega
        case wft2 => first | assumption | exact Nat.zero_lt_succ _ | (simp only [List.length_cons, List.length_nil]; exact Nat.zero_lt_succ _) | omega
        case wft3 => first | assumption | exact Nat.zero_lt_succ _ | (simp only [List.length_cons, List.length_nil]; exact Nat.zero_lt_succ _) | omega
        case wft4 => first | assumption | exact Nat.zero_lt_succ _ | (simp only [List.length_cons, List.length_nil]; exact Nat.zero_lt_succ _) | omega
      · refine wpAny_If ?_
        k_steps
        rename Flt.Hid (_ = _ * _ + _ * _) => ha
        rename Flt.Hid (_ = _ * _ - _ * _) => hb
        have nx := nx_t ok hcds.out hfs ha.out hb.out rfl
        rw [(comp_t (fl := z.fl) (X := z.M1 - z.P0) (Y := z.M2 - z.P1) ha.out hb.out).1] at dM1
        rw [(comp_t (fl := z.fl) (X := z.M1 - z.P0) (Y := z.M2 - z.P1) ha.out hb.out).2] at dM2
        refine' mid_intro2 ?wtF ?wtN ?wtk ?wtI ?wtD ?wta0 ?wta1 ?wta2 ?wta3 ?wta4 ?wta5 ?wta6 ?wta7 ?wta8 ?wta9 ?wta10 ?wta11 ?wta12 ?wta13 ?wta14 ?wta15 ?wta16 ?wtb0 ?wtb1 ?wtb2 ?wtb3 ?wtb4 ?wtb5 ?wtb6 ?wtb7 ?wtb8 ?wtb9 ?wtb10 ?wtb11 ?wtb12 ?wtb13 (ok_next ok nx dM1 dS1 dM2 dS2 ?wtt1 ?wtt2 ?wtt3 ?wtt4)
        (case wtF => assumption); (case wtN => assumption); (case wtk => first | assumption | exact Nat.zero_lt_succ _ | (simp only [List.length_cons, List.length_nil]; exact Nat.zero_lt_succ _) | omega); (case wta0 => exact rfl); (case wta1 => exact rfl); (case wta2 => exact rfl); (case wta3 => exact rfl); (case wta4 => exact rfl); (case wta5 => exact rfl); (case wta6 => exact rfl); (case wta7 => exact rfl); (case wta8 => exact rfl); (case wta9 => exact rfl); (case wta10 => exact rfl); (case wta11 => exact rfl); (case wta12 => exact rfl); (case wta13 => exact rfl); (case wta14 => exact rfl); (case wta15 => exact rfl); (case wta16 => exact rfl); (case wtI => k_mem); (case wtD => k_mem); (case wtb0 => k_mem); (case wtb1 => k_mem); (case wtb2 => k_mem); (case wtb3 => k_mem); (case wtb4 => k_mem); (case wtb5 => k_mem); (case wtb6 => k_mem); (case wtb7 => k_mem); (case wtb8 => k_mem); (case wtb9 => k_mem); (case wtb10 => k_mem); (case wtb11 => k_mem); (case wtb12 => k_mem); (case wtb13 => k_mem)
        case wtt1 => first | assumption | exact Nat.zero_lt_succ _ | (simp only [List.length_cons, List.length_nil]; exact Nat.zero_lt_succ _) | omega
        case wtt2 => first | assumption | exact Nat.zero_lt_succ _ | (simp only [List.length_cons, List.length_nil]; exact Nat.zero_lt_succ _) | omega
        case wtt3 => first | assumption | exact Nat.zero_lt_succ _ | (simp only [List.length_cons, List.length_nil]; exact Nat.zero_lt_succ _) | omega
        case wtt4 => first | assumption | exact Nat.zero_lt_succ _ | (simp only [List.length_cons, List.length_nil]; exact Nat.zero_lt_succ _) | omega
    case vrest =>
      clear dM1 dM2 dS1 dS2 lF lN hb1 ok hfs hsp dm1 ds1 dm2 ds2 dp0 dp1 dd1 dd2 dd3 dd4 dn1 dr1 dn2 dr2 tk1 tk2' tk3 tk4 tk7 tk8 tk9 tk10 tk11 tk12 tk13 tk14
      intro h3 tk5 w f3 tf3 u3 hk3 F3 N3 ok2
      dsimp only
      k_steps
      refine Stop.goes ?_
      rename Flt.Hid (_ = _ * _) => hf
      rw [← hf.out] at ok2
      have hsp := ok2.sp
      have dm1 := ok2.dm1; have ds1 := ok2.ds1; have dm2 := ok2.dm2; have ds2 := ok2.ds2; have dp0 := ok2.dp0; have dp1 := ok2.dp1; have dd1 := ok2.dd1; have dd2 := ok2.dd2; have dd3 := ok2.dd3; have dd4 := ok2.dd4; have dn1 := ok2.dn1; have dr1 := ok2.dr1; have dn2 := ok2.dn2; have dr2 := ok2.dr2
      obtain ⟨⟨tk1, tk2', tk3, tk4⟩, ⟨tk7, tk8, tk9, tk10⟩, tk11, tk12, tk13, tk14⟩ := ok2.tk
      have dah := dy_ah2 w.P1 hah ⟨by assumption, by assumption⟩
      have nx := nx_self ok2
      have hb2 := nx.bnd2 ok2
      have hb3 := nx.bnd3 ok2
      refine wpAny_If ?_
      k_steps
      refine Stop.goes ?_
      refine' turnD ?cbB ?cbF ?cbN ?cbT ?cbhf ?cbhke ?cbhr ?cbhp ?cbhq ?cbhx ?cbhdx ?cbhy ?cbhdy ?cbhp2 ?cbhp4 ?cbh1 ?cbh2 ?cbh3 ?cbh4 ?cbq0 ?cbq1 ?cbhb ?_ ?cbX
      case cbB => k_asm
      case cbF => k_asm
      case cbN => k_asm
      case cbT => k_asm
      case cbhf => exact rfl
      case cbhke => exact rfl
      case cbhr => (simp only [depth_under_make, depth_under_kw, depth_in1, depth_deeper, depth_caller]; first | decide | omega)
      case cbhp => k_mem
      case cbhq => k_mem
      case cbhx => k_mem
      case cbhdx => k_mem
      case cbhy => k_mem
      case cbhdy => k_mem
      case cbhp2 => first | assumption | exact Nat.zero_lt_succ _ | (simp only [List.length_cons, List.length_nil]; exact Nat.zero_lt_succ _) | omega
      case cbhp4 => first | assumption | exact Nat.zero_lt_succ _ | (simp only [List.length_cons, List.length_nil]; exact Nat.zero_lt_succ _) | omega
      case cbh1 => assumption
      case cbh2 => assumption
      case cbh3 => assumption
      case cbh4 => assumption
      case cbq0 => assumption
      case cbq1 => assumption
      case cbhb => assumption
      case cbX => k_in
      intro l' x1' d1' x2' d2' h' tk' M1' S1' M2' S2' v1' v2' v3' v4' k0' k1' k2' k3' k4' dM1' dS1' dM2' dS2' F' N'
      (try k_sweep)
      k_steps
      refine Stop.goes ?_
      refine' ne_told ?naF ?naN ?naX ?nah0 ?nag0 ?nah1 ?nah2 ?nag1 ?nag2 ?nax1 ?nax2 ?nay1 ?nay2 ?naz1 ?naz2 ?naw1 ?naw2 ?nap1 ?nap2 ?nap3 ?nap4 ?naq1 ?naq2 ?naq3 ?naq4 ?nau ?nav ?_
      case naF => k_asm
      case naN => k_asm
      case naX => k_in
      case nah0 => k_mem
      case nag0 => k_mem
      case nah1 => k_mem
      case nah2 => k_mem
      case nag1 => k_mem
      case nag2 => k_mem
      case nax1 => assumption
      case nax2 => assumption
      case nay1 => assumption
      case nay2 => assumption
      case naz1 => assumption
      case naz2 => assumption
      case naw1 => assumption
      case naw2 => assumption
      case nap1 => first | assumption | exact Nat.zero_lt_succ _ | (simp only [List.length_cons, List.length_nil]; exact Nat.zero_lt_succ _) | omega
      case nap2 => first | assumption | exact Nat.zero_lt_succ _ | (simp only [List.length_cons, List.length_nil]; exact Nat.zero_lt_succ _) | omega
      case nap3 => first | assumption | exact Nat.zero_lt_succ _ | (simp only [List.length_cons, List.length_nil]; exact Nat.zero_lt_succ _) | omega
      case nap4 => first | assumption | exact Nat.zero_lt_succ _ | (simp only [List.length_cons, List.length_nil]; exact Nat.zero_lt_succ _) | omega
      case naq1 => first | assumption | exact Nat.zero_lt_succ _ | (simp only [List.length_cons, List.length_nil]; exact Nat.zero_lt_succ _) | omega
      case naq2 => first | assumption | exact Nat.zero_lt_succ _ | (simp only [List.length_cons, List.length_nil]; exact Nat.zero_lt_succ _) | omega
      case naq3 => first | assumption | exact Nat.zero_lt_succ _ | (simp only [List.length_cons, List.length_nil]; exact Nat.zero_lt_succ _) | omega
      case naq4 => first | assumption | exact Nat.zero_lt_succ _ | (simp only [List.length_cons, List.length_nil]; exact Nat.zero_lt_succ _) | omega
      case nau => first | decide | exact Nat.le_of_ble_eq_true rfl | units_room
      case nav => first | decide | exact Nat.le_of_ble_eq_true rfl | units_room
      k_steps
      refine Stop.goes ?_
      refine wpAny_If ?_
      k_steps
      refine Stop.goes ?_
      refine' backD ?ccB ?ccF ?ccN ?ccT ?cchf ?cchke ?cchr ?cchp ?cchq ?cchx ?cchdx ?cchy ?cchdy ?cchp2 ?cchp4 ?cch1 ?cch2 ?cch3 ?cch4 ?ccq0 ?ccq1 ?cchb ?_ ?ccX
      case ccB => k_asm
      case ccF => k_asm
      case ccN => k_asm
      case ccT => k_asm
      case cchf => exact rfl
      case cchke => exact rfl
      case cchr => (simp only [depth_under_make, depth_under_kw, depth_in1, depth_deeper, depth_caller]; first | decide | omega)
      case cchp => k_mem
      case cchq => k_mem
      case cchx => k_mem
      case cchdx => k_mem
      case cchy => k_mem
      case cchdy => k_mem
      case cchp2 => first | assumption | exact Nat.zero_lt_succ _ | (simp only [List.length_cons, List.length_nil]; exact Nat.zero_lt_succ _) | omega
      case cchp4 => first | assumption | exact Nat.zero_lt_succ _ | (simp only [List.length_cons, List.length_nil]; exact Nat.zero_lt_succ _) | omega
      case cch1 => assumption
      case cch2 => assumption
      case cch3 => assumption
      case cch4 => assumption
      case ccq0 => assumption
      case ccq1 => assumption
      case cchb => assumption
      case ccX => k_in
      intro l' x1' d1' x2' d2' h' tk' M1' S1' M2' S2' v1' v2' v3' v4' k0' k1' k2' k3' k4' dM1' dS1' dM2' dS2' F' N'
      (try k_sweep)
      k_steps
      refine Stop.goes ?_
      refine' ne_told ?nbF ?nbN ?nbX ?nbh0 ?nbg0 ?nbh1 ?nbh2 ?nbg1 ?nbg2 ?nbx1 ?nbx2 ?nby1 ?nby2 ?nbz1 ?nbz2 ?nbw1 ?nbw2 ?nbp1 ?nbp2 ?nbp3 ?nbp4 ?nbq1 ?nbq2 ?nbq3 ?nbq4 ?nbu ?nbv ?_
      case nbF => k_asm
      case nbN => k_asm
      case nbX => k_in
      case nbh0 => k_mem
      case nbg0 => k_mem
      case nbh1 => k_mem
      case nbh2 => k_mem
      case nbg1 => k_mem
      case nbg2 => k_mem
      case nbx1 => assumption
      case nbx2 => assumption
      case nby1 => assumption
      case nby2 => assumption
      case nbz1 => assumption
      case nbz2 => assumption
      case nbw1 => assumption
      case nbw2 => assumption
      case nbp1 => first | assumption | exact Nat.zero_lt_succ _ | (simp only [List.length_cons, List.length_nil]; exact Nat.zero_lt_succ _) | omega
      case nbp2 => first | assumption | exact Nat.zero_lt_succ _ | (simp only [List.length_cons, List.length_nil]; exact Nat.zero_lt_succ _) | omega
      case nbp3 => first | assumption | exact Nat.zero_lt_succ _ | (simp only [List.length_cons, List.length_nil]; exact Nat.zero_lt_succ _) | omega
      case nbp4 => first | assumption | exact Nat.zero_lt_succ _ | (simp only [List.length_cons, List.length_nil]; exact Nat.zero_lt_succ _) | omega
      case nbq1 => first | assumption | exact Nat.zero_lt_succ _ | (simp only [List.length_cons, List.length_nil]; exact Nat.zero_lt_succ _) | omega
      case nbq2 => first | assumption | exact Nat.zero_lt_succ _ | (simp only [List.length_cons, List.length_nil]; exact Nat.zero_lt_succ _) | omega
      case nbq3 => first | assumption | exact Nat.zero_lt_succ _ | (simp only [List.length_cons, List.length_nil]; exact Nat.zero_lt_succ _) | omega
      case nbq4 => first | assumption | exact Nat.zero_lt_succ _ | (simp only [List.length_cons, List.length_nil]; exact Nat.zero_lt_succ _) | omega
      case nbu => first | decide | exact Nat.le_of_ble_eq_true rfl | units_room
      case nbv => first | decide | exact Nat.le_of_ble_eq_true rfl | units_room
      k_steps
      refine Stop.goes ?_
      rename Flt.Hid (_ = Int.fmod _ 3 - 1) => hm
      have hmb := more_bnd hm.out
      have hmok := mul_small hcds.out.2.2
      have hgb := mk_gb ok2 (by assumption) hcds.out hmb ⟨by assumption, by assumption⟩
      k_steps
      refine Stop.goes ?_
      refine' turnG ?cdB ?cdF ?cdN ?cdT ?cdhf ?cdhke ?cdhr ?cdhp ?cdhq ?cdhx ?cdhdx ?cdhy ?cdhdy ?cdhp2 ?cdhp4 ?cdhb ?cdh1 ?cdh3 ?cdq0 ?cdq1 ?_ ?cdX
      case cdB => k_asm
      case cdF => k_asm
      case cdN => k_asm
      case cdT => k_asm
      case cdhf => exact rfl
      case cdhke => exact rfl
      case cdhr => (simp only [depth_under_make, depth_under_kw, depth_in1, depth_deeper, depth_caller]; first | decide | omega)
      case cdhp => k_mem
      case cdhq => k_mem
      case cdhx => k_mem
      case cdhdx => k_mem
      case cdhy => k_mem
      case cdhdy => k_mem
      case cdhp2 => first | assumption | exact Nat.zero_lt_succ _ | (simp only [List.length_cons, List.length_nil]; exact Nat.zero_lt_succ _) | omega
      case cdhp4 => first | assumption | exact Nat.zero_lt_succ _ | (simp only [List.length_cons, List.length_nil]; exact Nat.zero_lt_succ _) | omega
      case cdhb => assumption
      case cdh1 => assumption
      case cdh3 => assumption
      case cdq0 => assumption
      case cdq1 => assumption
      case cdX => k_in
      intro l' x1' d1' x2' d2' h' tk' M1' S1' M2' S2' v1' v2' v3' v4' k0' k1' k2' k3' k4' dM1' dM2' tg' F' N'
      (try k_sweep)
      k_steps
      refine Stop.goes ?_
      refine' backG ?ceB ?ceF ?ceN ?ceT ?cehf ?cehke ?cehr ?cehp ?cehq ?cehx ?cehdx ?cehy ?cehdy ?cehp2 ?cehp4 ?cehg ?cehb ?ceh1 ?ceh3 ?ceq0 ?ceq1 ?_ ?ceX
      case ceB => k_asm
      case ceF => k_asm
      case ceN => k_asm
      case ceT => k_asm
      case cehf => exact rfl
      case cehke => exact rfl
      case cehr => (simp only [depth_under_make, depth_under_kw, depth_in1, depth_deeper, depth_caller]; first | decide | omega)
      case cehp => k_mem
      case cehq => k_mem
      case cehx => k_mem
      case cehdx => k_mem
      case cehy => k_mem
      case cehdy => k_mem
      case cehp2 => first | assumption | exact Nat.zero_lt_succ _ | (simp only [List.length_cons, List.length_nil]; exact Nat.zero_lt_succ _) | omega
      case cehp4 => first | assumption | exact Nat.zero_lt_succ _ | (simp only [List.length_cons, List.length_nil]; exact Nat.zero_lt_succ _) | omega
      case cehg => assumption
      case cehb => assumption
      case ceh1 => assumption
      case ceh3 => assumption
      case ceq0 => assumption
      case ceq1 => assumption
      case ceX => k_in
      intro l' x1' d1' x2' d2' h' tk' M1' S1' M2' S2' v1' v2' v3' v4' k0' k1' k2' k3' k4' dM1' dM2' e1' e2' F' N'
      (try k_sweep)
      k_steps
      all_goals
        refine Stop.goes ?_
        refine wpAny_If ?_
        k_steps
        refine' turn_end2 ?xxF ?xxN ?xxI hIc rfl ?xxD ?xxa0 ?xxa1 ?xxa9 ?xxa10 ?xxa11 ?xxa12 ?xxa13 ?xxa14 ?xxa15 ?xxa16 ?xxb0 ?xxb1 ?xxb2 ?xxb3 ?xxb4 ?xxb5 ?xxb6 ?xxb7 ?xxb8 ?xxb9 ?xxb10 ?xxb11 ?xxb12 ?xxb13 ok2
        case xxF => assumption
        case xxN => assumption
        case xxI => k_mem
        case xxa0 => exact rfl
        case xxa1 => exact rfl
        case xxa9 => exact rfl
        case xxa10 => exact rfl
        case xxa11 => exact rfl
        case xxa12 => exact rfl
        case xxa13 => exact rfl
        case xxa14 => exact rfl
        case xxa15 => exact rfl
        case xxa16 => exact rfl
        case xxD => k_mem
        case xxb0 => k_mem
        case xxb1 => k_mem
        case xxb2 => k_mem
        case xxb3 => k_mem
        case xxb4 => k_mem
        case xxb5 => k_mem
        case xxb6 => k_mem
        case xxb7 => k_mem
        case xxb8 => k_mem
        case xxb9 => k_mem
        case xxb10 => k_mem
        case xxb11 => k_mem
        case xxb12 => k_mem
        case xxb13 => k_mem
end Mine


end W1
section Head
open PySem PySem.W PySem.Calls PyProof.Rows
namespace Mine
theorem head1.tw10009692870320237525 : True := trivial
theorem head1.tw10012605085532069399 : True := trivial
theorem head1.tw10084914797134092663 : True := trivial
theorem head1.tw10100181467896342410 : True := trivial
theorem head1.tw1010114059530228160 : True := trivial
theorem head1.tw10102261451686668965 : True := trivial
theorem head1.tw10108948500015460364 : True := trivial
theorem head1.tw10154091336190637125 : True := trivial
theorem head1.tw10185519787802817892 : True := trivial
theorem head1.tw10240987601732267002 : True := trivial
theorem head1.tw1025520252201505042 : True := trivial
theorem head1.tw10260301878878057451 : True := trivial
theorem head1.tw10272578325231978092 : True := trivial
theorem head1.tw10315627861262767797 : True := trivial
theorem head1.tw10324132462504185663 : True := trivial
theorem head1.tw10367349722607420648 : True := trivial
theorem head1.tw1036807703671492704 : True := trivial
theorem head1.tw10382059824775131459 : True := trivial
theorem head1.tw10429650487007664215 : True := trivial
theorem head1.tw10444099127896563620 : True := trivial
theorem head1.tw10445480534925418703 : True := trivial
theorem head1.tw10511232249072158634 : True := trivial
theorem head1.tw10513578868943448108 : True := trivial
theorem head1.tw1053942534329307985 : True := trivial
theorem head1.tw10565663630414700240 : True := trivial
theorem head1.tw10575692972725036327 : True := trivial
theorem head1.tw10577746930495183809 : True := trivial
theorem head1.tw10578038073612414517 : True := trivial
theorem head1.tw10620331201077001689 : True := trivial
theorem head1.tw10633058062219363077 : True := trivial
theorem head1.tw10651432006229368427 : True := trivial
theorem head1.tw10678754632577238968 : True := trivial
theorem head1.tw10710026152656973928 : True := trivial
theorem head1.tw10718609809440771068 : True := trivial
theorem head1.tw10735514846642485471 : True := trivial
theorem head1.tw10764493976040640227 : True := trivial
theorem head1.tw10767711195411655455 : True := trivial
theorem head1.tw10774095271911395045 : True := trivial
theorem head1.tw10774478572659199277 : True := trivial
theorem head1.tw1078599984956000777 : True := trivial
theorem head1.tw10786453735201842369 : True := trivial
theorem head1.tw10790047464498646068 : True := trivial
theorem head1.tw1080025322535217939 : True := trivial
theorem head1.tw10804462267349854066 : True := trivial
theorem head1.tw10868409614262840459 : True := trivial
theorem head1.tw10915671950664762226 : True := trivial
theorem head1.tw10958953371271715314 : True := trivial
theorem head1.tw10988844778736028443 : True := trivial
theorem head1.tw11014282216670845669 : True := trivial
theorem head1.tw11024267049093553030 : True := trivial
theorem head1.tw11101834137271686761 : True := trivial
theorem head1.tw1112895560959804317 : True := trivial
theorem head1.tw11135676077407339598 : True := trivial
theorem head1.tw11161593290990724541 : True := trivial
theorem head1.tw11235917563445112046 : True := trivial
theorem head1.tw11258998221420922300 : True := trivial
theorem head1.tw11267125123266345762 : True := trivial
theorem head1.tw11301757183211034671 : True := trivial
theorem head1.tw1132734000583879501 : True := trivial
theorem head1.tw11347011326968844539 : True := trivial
theorem head1.tw11392183385236560938 : True := trivial
theorem head1.tw11449772874502054020 : True := trivial
theorem head1.tw11528347681164850805 : True := trivial
theorem head1.tw1158636461578884264 : True := trivial
theorem head1.tw11647942235642247298 : True := trivial
theorem head1.tw11708726430653956782 : True := trivial
theorem head1.tw11717935569859188063 : True := trivial
theorem head1.tw11751671338067788332 : True := trivial
theorem head1.tw11856395769084431779 : True := trivial
theorem head1.tw1187099086950646000 : True := trivial
theorem head1.tw1188687399866953995 : True := trivial
theorem head1.tw11910073560732707395 : True := trivial
theorem head1.tw11942462450787841780 : True := trivial
theorem head1.tw11961957675680749049 : True := trivial
theorem head1.tw11971018252572026935 : True := trivial
theorem head1.tw11978155773332240330 : True := trivial
theorem head1.tw1201900802768065838 : True := trivial
theorem head1.tw12050933864481464971 : True := trivial
theorem head1.tw12101457515955548151 : True := trivial
theorem head1.tw12122157071993884657 : True := trivial
theorem head1.tw12126971309841721459 : True := trivial
theorem head1.tw12128453838554367076 : True := trivial
theorem head1.tw12146003000141762356 : True := trivial
theorem head1.tw121567324418310705 : True := trivial
theorem head1.tw12183931698125506659 : True := trivial
theorem head1.tw12186053497017375080 : True := trivial
theorem head1.tw12222533786778142166 : True := trivial
theorem head1.tw12265734055916651505 : True := trivial
theorem head1.tw12273369418009897828 : True := trivial
theorem head1.tw12294175567301433704 : True := trivial
theorem head1.tw12303612198241425066 : True := trivial
theorem head1.tw12305704368165407713 : True := trivial
theorem head1.tw12308821243164687916 : True := trivial
theorem head1.tw12337641691864962970 : True := trivial
theorem head1.tw12399765620625730411 : True := trivial
theorem head1.tw12453083535460752187 : True := trivial
theorem head1.tw12471785276147646981 : True := trivial
theorem head1.tw12487212478593466476 : True := trivial
theorem head1.tw1249333112356000697 : True := trivial
theorem head1.tw12515688221206480621 : True := trivial
theorem head1.tw12539787496903963767 : True := trivial
theorem head1.tw12608978674696913578 : True := trivial
theorem head1.tw12634652176222542204 : True := trivial
theorem head1.tw12657677374264283284 : True := trivial
theorem head1.tw12659504167645468756 : True := trivial
theorem head1.tw12668328033202846734 : True := trivial
theorem head1.tw12686713173876418643 : True := trivial
theorem head1.tw12754296812668457073 : True := trivial
theorem head1.tw12765013543272132079 : True := trivial
theorem head1.tw1280005208770818843 : True := trivial
theorem head1.tw1289043880817893877 : True := trivial
theorem head1.tw12902981204025885850 : True := trivial
theorem head1.tw12908883438186516873 : True := trivial
theorem head1.tw12917158828747325508 : True := trivial
theorem head1.tw12920049648581886453 : True := trivial
theorem head1.tw1293242690352347451 : True := trivial
theorem head1.tw12956506683592070586 : True := trivial
theorem head1.tw12971884179064302520 : True := trivial
theorem head1.tw13023767802221720365 : True := trivial
theorem head1.tw13065748633471075633 : True := trivial
theorem head1.tw13075201399127824371 : True := trivial
theorem head1.tw13084065608265267367 : True := trivial
theorem head1.tw13098042887627138899 : True := trivial
theorem head1.tw13126658534112850227 : True := trivial
theorem head1.tw13139353579993122516 : True := trivial
theorem head1.tw13156961508518541814 : True := trivial
theorem head1.tw1316625547747885980 : True := trivial
theorem head1.tw13173232857063685365 : True := trivial
theorem head1.tw13174599596034259326 : True := trivial
theorem head1.tw13218479623122232840 : True := trivial
theorem head1.tw13251149138569357611 : True := trivial
theorem head1.tw13255317398522451297 : True := trivial
theorem head1.tw13262511762027914708 : True := trivial
theorem head1.tw13285807990532447702 : True := trivial
theorem head1.tw13289858916887017850 : True := trivial
theorem head1.tw13327610020384930366 : True := trivial
theorem head1.tw1333687631055767964 : True := trivial
theorem head1.tw13337660371201951659 : True := trivial
theorem head1.tw13342213607138201767 : True := trivial
theorem head1.tw13364040910844496652 : True := trivial
theorem head1.tw13367395867690321467 : True := trivial
theorem head1.tw13381723486840056859 : True := trivial
theorem head1.tw13382847377067940305 : True := trivial
theorem head1.tw1342241181467448607 : True := trivial
theorem head1.tw13482766378564414129 : True := trivial
theorem head1.tw13495246467226467858 : True := trivial
theorem head1.tw13529746503053573568 : True := trivial
theorem head1.tw13534456657109823971 : True := trivial
theorem head1.tw13559716957450645628 : True := trivial
theorem head1.tw13574595412515060033 : True := trivial
theorem head1.tw13595286877199626789 : True := trivial
theorem head1.tw13596375709861179114 : True := trivial
theorem head1.tw13610496851561863111 : True := trivial
theorem head1.tw1366028192962985529 : True := trivial
theorem head1.tw13701104218294813716 : True := trivial
theorem head1.tw13725347147511217218 : True := trivial
theorem head1.tw13728302764369449568 : True := trivial
theorem head1.tw13731005689979531395 : True := trivial
theorem head1.tw1375372851959521629 : True := trivial
theorem head1.tw13770827994221702579 : True := trivial
theorem head1.tw13828540647324740326 : True := trivial
theorem head1.tw13927676061836390779 : True := trivial
theorem head1.tw13941990751700719088 : True := trivial
theorem head1.tw13967235367065617862 : True := trivial
theorem head1.tw14070513170961004448 : True := trivial
theorem head1.tw14110228212842537335 : True := trivial
theorem head1.tw14123883730754198842 : True := trivial
theorem head1.tw14130856217495986559 : True := trivial
theorem head1.tw14153576958305927917 : True := trivial
theorem head1.tw14153905888898475218 : True := trivial
theorem head1.tw14221238987921455107 : True := trivial
theorem head1.tw1431746174624850726 : True := trivial
theorem head1.tw14325676993910890255 : True := trivial
theorem head1.tw14327486405821472646 : True := trivial
theorem head1.tw14394934050807780344 : True := trivial
theorem head1.tw144297035907344739 : True := trivial
theorem head1.tw14438453371113329990 : True := trivial
theorem head1.tw14517502622280379754 : True := trivial
theorem head1.tw14557159426821973649 : True := trivial
theorem head1.tw14567304246389506403 : True := trivial
theorem head1.tw14573179634010825103 : True := trivial
theorem head1.tw14582868589076898277 : True := trivial
theorem head1.tw14612878354031183349 : True := trivial
theorem head1.tw14627519774556258593 : True := trivial
theorem head1.tw14633157067300518888 : True := trivial
theorem head1.tw14654989083740179813 : True := trivial
theorem head1.tw14657053400418808442 : True := trivial
theorem head1.tw14783488659729021218 : True := trivial
theorem head1.tw14807548573682527238 : True := trivial
theorem head1.tw14859614287947423281 : True := trivial
theorem head1.tw14874452979115292265 : True := trivial
theorem head1.tw14896169291211101863 : True := trivial
theorem head1.tw14908817892773499569 : True := trivial
theorem head1.tw14917638030752858595 : True := trivial
theorem head1.tw14957698555956655377 : True := trivial
theorem head1.tw14959573232962615375 : True := trivial
theorem head1.tw15000129118876040748 : True := trivial
theorem head1.tw15011429905828046047 : True := trivial
theorem head1.tw15091477450024038855 : True := trivial
theorem head1.tw15112714776791781628 : True := trivial
theorem head1.tw15117765231419131116 : True := trivial
theorem head1.tw15132996426853288242 : True := trivial
theorem head1.tw1519017042012474505 : True := trivial
theorem head1.tw15203504690664904399 : True := trivial
theorem head1.tw15218366778070571214 : True := trivial
theorem head1.tw15231279976695216491 : True := trivial
theorem head1.tw15234318853630883344 : True := trivial
theorem head1.tw15290672826318618088 : True := trivial
theorem head1.tw15311770187014486660 : True := trivial
theorem head1.tw15325110746705434033 : True := trivial
theorem head1.tw15335398119651246384 : True := trivial
theorem head1.tw15341895761056434367 : True := trivial
theorem head1.tw1534192687654619684 : True := trivial
theorem head1.tw15348573932430168 : True := trivial
theorem head1.tw15362008691047219818 : True := trivial
theorem head1.tw15374656415583837880 : True := trivial
theorem head1.tw15392930185660072022 : True := trivial
theorem head1.tw15425021306735687755 : True := trivial
theorem head1.tw15434003754577450941 : True := trivial
theorem head1.tw15438107279860535364 : True := trivial
theorem head1.tw15479007046037876894 : True := trivial
theorem head1.tw15496604238256419431 : True := trivial
theorem head1.tw15506535748961594202 : True := trivial
theorem head1.tw15526033741521253964 : True := trivial
theorem head1.tw15582156346125695740 : True := trivial
theorem head1.tw15604844489180551413 : True := trivial
theorem head1.tw15637921086267826517 : True := trivial
theorem head1.tw156424116561531906 : True := trivial
theorem head1.tw15687628084010448724 : True := trivial
theorem head1.tw15717027587590354824 : True := trivial
theorem head1.tw15837836961893234238 : True := trivial
theorem head1.tw16000369196819784999 : True := trivial
theorem head1.tw16053225496405529414 : True := trivial
theorem head1.tw16064729576096998731 : True := trivial
theorem head1.tw16122056741097011115 : True := trivial
theorem head1.tw16144768959337599957 : True := trivial
theorem head1.tw16157946348395828352 : True := trivial
theorem head1.tw16207116412312938889 : True := trivial
theorem head1.tw16211207079971820312 : True := trivial
theorem head1.tw16212945186052640407 : True := trivial
theorem head1.tw16225831553388458283 : True := trivial
theorem head1.tw16237582097960154827 : True := trivial
theorem head1.tw16322851416080325026 : True := trivial
theorem head1.tw16337145283103024944 : True := trivial
theorem head1.tw16339373809842435701 : True := trivial
theorem head1.tw16389043557687961183 : True := trivial
theorem head1.tw16511726882065285181 : True := trivial
theorem head1.tw16523954189475694503 : True := trivial
theorem head1.tw16553613665003835398 : True := trivial
theorem head1.tw16562165586632229097 : True := trivial
theorem head1.tw16596166709114016376 : True := trivial
theorem head1.tw16612760396558499452 : True := trivial
theorem head1.tw166363472923404800 : True := trivial
theorem head1.tw16683674547984225482 : True := trivial
theorem head1.tw16756802368208942414 : True := trivial
theorem head1.tw16761146022756869620 : True := trivial
theorem head1.tw16762894423753311334 : True := trivial
theorem head1.tw16767560477795037811 : True := trivial
theorem head1.tw16788416818321511458 : True := trivial
theorem head1.tw16796107903101267309 : True := trivial
theorem head1.tw16803278179588071703 : True := trivial
theorem head1.tw1683119465291656779 : True := trivial
theorem head1.tw16919188719050440337 : True := trivial
theorem head1.tw16948591856119339308 : True := trivial
theorem head1.tw16955652790861565092 : True := trivial
theorem head1.tw16985682343971781293 : True := trivial
theorem head1.tw16996901012474396763 : True := trivial
theorem head1.tw16998454151553722448 : True := trivial
theorem head1.tw17001515151567199998 : True := trivial
theorem head1.tw17077528704655052510 : True := trivial
theorem head1.tw17097465914695299870 : True := trivial
theorem head1.tw17103039768671620341 : True := trivial
theorem head1.tw17198444063512577358 : True := trivial
theorem head1.tw17296744317592054254 : True := trivial
theorem head1.tw17318354163544309506 : True := trivial
theorem head1.tw17348734478203144335 : True := trivial
theorem head1.tw17365522424313222954 : True := trivial
theorem head1.tw17438256392002961706 : True := trivial
theorem head1.tw17453493335365546248 : True := trivial
theorem head1.tw17459541534442215390 : True := trivial
theorem head1.tw17478643788869396531 : True := trivial
theorem head1.tw1748897120766065693 : True := trivial
theorem head1.tw1749122847450556970 : True := trivial
theorem head1.tw17520836095169199139 : True := trivial
theorem head1.tw1762104497703250655 : True := trivial
theorem head1.tw17642599002692058088 : True := trivial
theorem head1.tw17660565857609535737 : True := trivial
theorem head1.tw17665251458205518242 : True := trivial
theorem head1.tw17680203142321439772 : True := trivial
theorem head1.tw17691773268777693599 : True := trivial
theorem head1.tw1769501455233631388 : True := trivial
theorem head1.tw17706639519571857036 : True := trivial
theorem head1.tw17711025193377622876 : True := trivial
theorem head1.tw17716218581741496316 : True := trivial
theorem head1.tw17792116332817158911 : True := trivial
theorem head1.tw17799943424511508420 : True := trivial
theorem head1.tw17816627177735848882 : True := trivial
theorem head1.tw17816630575469169329 : True := trivial
theorem head1.tw17864480484848733833 : True := trivial
theorem head1.tw17923807532913342249 : True := trivial
theorem head1.tw17931934697600358750 : True := trivial
theorem head1.tw1797031037110704054 : True := trivial
theorem head1.tw18001185878608678577 : True := trivial
theorem head1.tw18008790846294797868 : True := trivial
theorem head1.tw18070234261907046423 : True := trivial
theorem head1.tw18115236345398961683 : True := trivial
theorem head1.tw18135424349683004827 : True := trivial
theorem head1.tw18139060194836407434 : True := trivial
theorem head1.tw18160229681728723099 : True := trivial
theorem head1.tw18170761562460739315 : True := trivial
theorem head1.tw18179397270391439997 : True := trivial
theorem head1.tw18184868775640847575 : True := trivial
theorem head1.tw18187774275854661053 : True := trivial
theorem head1.tw18220512822946102645 : True := trivial
theorem head1.tw18262890526371602841 : True := trivial
theorem head1.tw1826723234570501353 : True := trivial
theorem head1.tw18339406478850001151 : True := trivial
theorem head1.tw18434899587713413536 : True := trivial
theorem head1.tw1857962376381606650 : True := trivial
theorem head1.tw1882136703324330180 : True := trivial
theorem head1.tw1915562832153969089 : True := trivial
theorem head1.tw1925780581367107071 : True := trivial
theorem head1.tw1932042789979094831 : True := trivial
theorem head1.tw1950730934095820870 : True := trivial
theorem head1.tw1958077317643667069 : True := trivial
theorem head1.tw1981869634588787554 : True := trivial
theorem head1.tw2007025626739727620 : True := trivial
theorem head1.tw2016105975084954421 : True := trivial
theorem head1.tw2038607580994749223 : True := trivial
theorem head1.tw2044298182341178591 : True := trivial
theorem head1.tw2049243213701783487 : True := trivial
theorem head1.tw2075156834065279142 : True := trivial
theorem head1.tw2131113209214561511 : True := trivial
theorem head1.tw2131683204853575456 : True := trivial
theorem head1.tw2153297678971160651 : True := trivial
theorem head1.tw2174958012536062711 : True := trivial
theorem head1.tw2187614545271660329 : True := trivial
theorem head1.tw2233860807446074936 : True := trivial
theorem head1.tw2272230931782641059 : True := trivial
theorem head1.tw2273271330286658422 : True := trivial
theorem head1.tw2282426092370852941 : True := trivial
theorem head1.tw2294760889140561930 : True := trivial
theorem head1.tw2402736571790714552 : True := trivial
theorem head1.tw2449041930922557066 : True := trivial
theorem head1.tw2477721114763390985 : True := trivial
theorem head1.tw249270031934801330 : True := trivial
theorem head1.tw2508393184575267344 : True := trivial
theorem head1.tw2539389770410293182 : True := trivial
theorem head1.tw2547426263853571563 : True := trivial
theorem head1.tw2562616886887050281 : True := trivial
theorem head1.tw258911369371860468 : True := trivial
theorem head1.tw2602364618983856205 : True := trivial
theorem head1.tw2615810140368684198 : True := trivial
theorem head1.tw2694190565564234790 : True := trivial
theorem head1.tw2712739527758352644 : True := trivial
theorem head1.tw2749967734562534227 : True := trivial
theorem head1.tw276612156804119985 : True := trivial
theorem head1.tw2771244760479542933 : True := trivial
theorem head1.tw2793087141976713289 : True := trivial
theorem head1.tw2794583543196424771 : True := trivial
theorem head1.tw2796097505963683014 : True := trivial
theorem head1.tw2846044970999869324 : True := trivial
theorem head1.tw2849405876276285344 : True := trivial
theorem head1.tw2906362995434514774 : True := trivial
theorem head1.tw2960542904437679347 : True := trivial
theorem head1.tw3001852826508162605 : True := trivial
theorem head1.tw3033585157596519024 : True := trivial
theorem head1.tw3088509216264588854 : True := trivial
theorem head1.tw3109355236517524091 : True := trivial
theorem head1.tw3131164469937510709 : True := trivial
theorem head1.tw3131816745072778737 : True := trivial
theorem head1.tw3140294586186781377 : True := trivial
theorem head1.tw3177167221012519585 : True := trivial
theorem head1.tw3192068620060553007 : True := trivial
theorem head1.tw3231468108019348247 : True := trivial
theorem head1.tw3233739930088872114 : True := trivial
theorem head1.tw3254795668936043667 : True := trivial
theorem head1.tw332887937128230580 : True := trivial
theorem head1.tw3333024717092501897 : True := trivial
theorem head1.tw3359228041580226909 : True := trivial
theorem head1.tw3362335882381734644 : True := trivial
theorem head1.tw3388034679432926557 : True := trivial
theorem head1.tw3392615420407790845 : True := trivial
theorem head1.tw3396650885715789221 : True := trivial
theorem head1.tw3439591351147371554 : True := trivial
theorem head1.tw3446717516759912989 : True := trivial
theorem head1.tw3483671164274152024 : True := trivial
theorem head1.tw3511884552090548609 : True := trivial
theorem head1.tw3520115052854179432 : True := trivial
theorem head1.tw3558232345474740389 : True := trivial
theorem head1.tw3598975205566704186 : True := trivial
theorem head1.tw3658012634473222619 : True := trivial
theorem head1.tw366103618112224079 : True := trivial
theorem head1.tw3673489925418398593 : True := trivial
theorem head1.tw3685973269758210212 : True := trivial
theorem head1.tw3686380626017562578 : True := trivial
theorem head1.tw3717281953042599237 : True := trivial
theorem head1.tw3746369670222409391 : True := trivial
theorem head1.tw3754197706061122437 : True := trivial
theorem head1.tw3833988542147807556 : True := trivial
theorem head1.tw3862377796109323909 : True := trivial
theorem head1.tw3879985805298201564 : True := trivial
theorem head1.tw3891642362369187879 : True := trivial
theorem head1.tw3992641066431674963 : True := trivial
theorem head1.tw400950562064194815 : True := trivial
theorem head1.tw4031199972050648256 : True := trivial
theorem head1.tw4062759234945359218 : True := trivial
theorem head1.tw4111521988478251138 : True := trivial
theorem head1.tw4127497138891785653 : True := trivial
theorem head1.tw418006004578730987 : True := trivial
theorem head1.tw4235294884599868406 : True := trivial
theorem head1.tw4281722246851543720 : True := trivial
theorem head1.tw4302166242247738810 : True := trivial
theorem head1.tw4328023093753648959 : True := trivial
theorem head1.tw4506594235382266184 : True := trivial
theorem head1.tw4517323168808326207 : True := trivial
theorem head1.tw4530130519607430608 : True := trivial
theorem head1.tw4581704452750990277 : True := trivial
theorem head1.tw4584730948629354443 : True := trivial
theorem head1.tw4595761699114198213 : True := trivial
theorem head1.tw4603689442202140265 : True := trivial
theorem head1.tw4622136917547833695 : True := trivial
theorem head1.tw4626568875975072410 : True := trivial
theorem head1.tw4643109443801868611 : True := trivial
theorem head1.tw4663904121542538988 : True := trivial
theorem head1.tw4675732845817786104 : True := trivial
theorem head1.tw4686561091512043394 : True := trivial
theorem head1.tw4733145215487426944 : True := trivial
theorem head1.tw4738608486771505558 : True := trivial
theorem head1.tw4793019220172174417 : True := trivial
theorem head1.tw4798563031090909616 : True := trivial
theorem head1.tw4812553705606922273 : True := trivial
theorem head1.tw4843728169083296997 : True := trivial
theorem head1.tw4910321473922906470 : True := trivial
theorem head1.tw4930380850994088910 : True := trivial
theorem head1.tw4937680254946485417 : True := trivial
theorem head1.tw4942474404158524941 : True := trivial
theorem head1.tw5011158029176482807 : True := trivial
theorem head1.tw5094950921613451978 : True := trivial
theorem head1.tw5121990266835908012 : True := trivial
theorem head1.tw5136140496359280659 : True := trivial
theorem head1.tw5138566965192675536 : True := trivial
theorem head1.tw5139269210069697734 : True := trivial
theorem head1.tw5140815643713965709 : True := trivial
theorem head1.tw5171241528201253212 : True := trivial
theorem head1.tw5188936014512108788 : True := trivial
theorem head1.tw5260901284101725048 : True := trivial
theorem head1.tw5265139163855196244 : True := trivial
theorem head1.tw5307083951505461428 : True := trivial
theorem head1.tw5325303478380214165 : True := trivial
theorem head1.tw5345727934280244425 : True := trivial
theorem head1.tw5349636535098514317 : True := trivial
theorem head1.tw539383365723230931 : True := trivial
theorem head1.tw5445954610028761425 : True := trivial
theorem head1.tw5465034779738421841 : True := trivial
theorem head1.tw5466490554907854893 : True := trivial
theorem head1.tw5582819221023965399 : True := trivial
theorem head1.tw5616231772055289064 : True := trivial
theorem head1.tw569994191362214037 : True := trivial
theorem head1.tw5725716168690309558 : True := trivial
theorem head1.tw5762613418995703401 : True := trivial
theorem head1.tw5823094896034676475 : True := trivial
theorem head1.tw583416732584284571 : True := trivial
theorem head1.tw5844639104654132195 : True := trivial
theorem head1.tw5894248119002504523 : True := trivial
theorem head1.tw5933579194287157976 : True := trivial
theorem head1.tw5934622089658326438 : True := trivial
theorem head1.tw5955997367285514400 : True := trivial
theorem head1.tw5957341423016664190 : True := trivial
theorem head1.tw5970830243952454529 : True := trivial
theorem head1.tw5986654891474743071 : True := trivial
theorem head1.tw5995796039981376680 : True := trivial
theorem head1.tw6004269086480583109 : True := trivial
theorem head1.tw6006210517849007427 : True := trivial
theorem head1.tw6015963889726137479 : True := trivial
theorem head1.tw6042333175222109393 : True := trivial
theorem head1.tw604240844845899663 : True := trivial
theorem head1.tw6089389282937750085 : True := trivial
theorem head1.tw6091157477678822926 : True := trivial
theorem head1.tw6096211914380636330 : True := trivial
theorem head1.tw6101132058336308281 : True := trivial
theorem head1.tw6190969040759163959 : True := trivial
theorem head1.tw6236502121380004613 : True := trivial
theorem head1.tw6254129401612794499 : True := trivial
theorem head1.tw6255246206098618514 : True := trivial
theorem head1.tw6281294035064361405 : True := trivial
theorem head1.tw6303413154828983679 : True := trivial
theorem head1.tw6339011637898345406 : True := trivial
theorem head1.tw6358693730692476172 : True := trivial
theorem head1.tw636157124664544705 : True := trivial
theorem head1.tw6392501097204572122 : True := trivial
theorem head1.tw6456218210893969591 : True := trivial
theorem head1.tw6491420961852754057 : True := trivial
theorem head1.tw6509535754288576568 : True := trivial
theorem head1.tw6542003915980928807 : True := trivial
theorem head1.tw6548562078937432274 : True := trivial
theorem head1.tw6565410076274123366 : True := trivial
theorem head1.tw6571399732092131667 : True := trivial
theorem head1.tw658697426735872638 : True := trivial
theorem head1.tw6591836605477351300 : True := trivial
theorem head1.tw6623209103938651420 : True := trivial
theorem head1.tw6644447088195783447 : True := trivial
theorem head1.tw6658209794266465306 : True := trivial
theorem head1.tw6698293413875570459 : True := trivial
theorem head1.tw6700753549555675521 : True := trivial
theorem head1.tw6720954676960444867 : True := trivial
theorem head1.tw6724161412371256629 : True := trivial
theorem head1.tw673192655607336079 : True := trivial
theorem head1.tw6741626170784351078 : True := trivial
theorem head1.tw6761956395561346372 : True := trivial
theorem head1.tw6790272994639154100 : True := trivial
theorem head1.tw6811311951943444440 : True := trivial
theorem head1.tw6844313199436893509 : True := trivial
theorem head1.tw6892275099571142837 : True := trivial
theorem head1.tw6912916081636905844 : True := trivial
theorem head1.tw694676167012884465 : True := trivial
theorem head1.tw6958551189974429424 : True := trivial
theorem head1.tw6969470354825752733 : True := trivial
theorem head1.tw6975831044876868280 : True := trivial
theorem head1.tw7028490568474330403 : True := trivial
theorem head1.tw7032222097831424316 : True := trivial
theorem head1.tw7058527001573253492 : True := trivial
theorem head1.tw7093066094057285581 : True := trivial
theorem head1.tw7102966982373447184 : True := trivial
theorem head1.tw713375260406936231 : True := trivial
theorem head1.tw7183045404414568760 : True := trivial
theorem head1.tw7203042394926591186 : True := trivial
theorem head1.tw7217631482222131382 : True := trivial
theorem head1.tw7262422625298282707 : True := trivial
theorem head1.tw7283128539920727054 : True := trivial
theorem head1.tw7297648423227396607 : True := trivial
theorem head1.tw7298029400178099147 : True := trivial
theorem head1.tw7352592818305356700 : True := trivial
theorem head1.tw7381764087250887816 : True := trivial
theorem head1.tw7429551021447145644 : True := trivial
theorem head1.tw7435506898462329964 : True := trivial
theorem head1.tw7442151735832752066 : True := trivial
theorem head1.tw7444068473219253582 : True := trivial
theorem head1.tw7470476529341632279 : True := trivial
theorem head1.tw7472956706840308776 : True := trivial
theorem head1.tw7482692497619096473 : True := trivial
theorem head1.tw7517421899360386115 : True := trivial
theorem head1.tw7526011552811099383 : True := trivial
theorem head1.tw7535284431831472541 : True := trivial
theorem head1.tw7638825309760782614 : True := trivial
theorem head1.tw7655808807499279429 : True := trivial
theorem head1.tw7674351595092258179 : True := trivial
theorem head1.tw7737628630382552340 : True := trivial
theorem head1.tw774149820166296326 : True := trivial
theorem head1.tw7744838488427156797 : True := trivial
theorem head1.tw776718692089474758 : True := trivial
theorem head1.tw7787048524449970630 : True := trivial
theorem head1.tw7804452246175017198 : True := trivial
theorem head1.tw782122636345432372 : True := trivial
theorem head1.tw7840693853961371841 : True := trivial
theorem head1.tw7844336735194422062 : True := trivial
theorem head1.tw7861759036841925768 : True := trivial
theorem head1.tw7890764957300436729 : True := trivial
theorem head1.tw8004908339260956313 : True := trivial
theorem head1.tw8043387152452625389 : True := trivial
theorem head1.tw804796644520036721 : True := trivial
theorem head1.tw8060868247761676206 : True := trivial
theorem head1.tw8088565836683481505 : True := trivial
theorem head1.tw8104395430686021829 : True := trivial
theorem head1.tw8139128468674425197 : True := trivial
theorem head1.tw8157125768606332338 : True := trivial
theorem head1.tw8179189087651484342 : True := trivial
theorem head1.tw8180324701944926468 : True := trivial
theorem head1.tw8180714907486896752 : True := trivial
theorem head1.tw818876658369757062 : True := trivial
theorem head1.tw8217356704494314011 : True := trivial
theorem head1.tw8231809589709380756 : True := trivial
theorem head1.tw825116837799713219 : True := trivial
theorem head1.tw8272501898593688848 : True := trivial
theorem head1.tw8284270199288912630 : True := trivial
theorem head1.tw8331420876355727661 : True := trivial
theorem head1.tw8361006815773502412 : True := trivial
theorem head1.tw8368268341089180236 : True := trivial
theorem head1.tw8380306922534344953 : True := trivial
theorem head1.tw8398802327110205544 : True := trivial
theorem head1.tw8407458383117109550 : True := trivial
theorem head1.tw8413833021531277190 : True := trivial
theorem head1.tw8422516346557705801 : True := trivial
theorem head1.tw849120632621649279 : True := trivial
theorem head1.tw8519799485928791765 : True := trivial
theorem head1.tw8557929895204353479 : True := trivial
theorem head1.tw8647480890446620936 : True := trivial
theorem head1.tw8684019145730877325 : True := trivial
theorem head1.tw8698643445888010249 : True := trivial
theorem head1.tw8729536324050718921 : True := trivial
theorem head1.tw877979999705995856 : True := trivial
theorem head1.tw879325030844493283 : True := trivial
theorem head1.tw8835734886374990896 : True := trivial
theorem head1.tw8867426667133921105 : True := trivial
theorem head1.tw8899322746122023493 : True := trivial
theorem head1.tw8936967712718405426 : True := trivial
theorem head1.tw8942236294298518261 : True := trivial
theorem head1.tw8990020426747515556 : True := trivial
theorem head1.tw9030804806799254717 : True := trivial
theorem head1.tw9095970035449107628 : True := trivial
theorem head1.tw9108420194538496238 : True := trivial
theorem head1.tw911135735777862387 : True := trivial
theorem head1.tw9124523101945046793 : True := trivial
theorem head1.tw9200249792253288580 : True := trivial
theorem head1.tw9222005089595275951 : True := trivial
theorem head1.tw9318999396415119611 : True := trivial
theorem head1.tw9417387545005859937 : True := trivial
theorem head1.tw9514845753567444059 : True := trivial
theorem head1.tw959604443239285409 : True := trivial
theorem head1.tw9597749536901678699 : True := trivial
theorem head1.tw9598165779483864956 : True := trivial
theorem head1.tw9704616952186949699 : True := trivial
theorem head1.tw9749399837458595117 : True := trivial
theorem head1.tw9759241701813685899 : True := trivial
theorem head1.tw9776843386197852596 : True := trivial
theorem head1.tw9791943150296694863 : True := trivial
theorem head1.tw9798615274103860413 : True := trivial
theorem head1.tw9801886390267161432 : True := trivial
theorem head1.tw9806989585791090598 : True := trivial
theorem head1.tw9853408050647199728 : True := trivial
theorem head1.tw9904292769890944037 : True := trivial
theorem head1.tw9912164010228409649 : True := trivial
theorem head1.tw9937003240007267586 : True := trivial
theorem head1.tw9944464381908236636 : True := trivial
theorem head1.tw9960004439943827080 : True := trivial
set_option Elab.async true in
set_option maxRecDepth 100000 in
set_option maxHeartbeats 0 in
theorem head1 : PySem.Challenge.rw_oz0057_01.Holds := by
  w_on
  o_law
  o_head (kHook K1 ((nat_lit 2)::(nat_lit 3)::(nat_lit 43)::(nat_lit 45)::(nat_lit 46)::(nat_lit 48)::(nat_lit 49)::(nat_lit 50)::(nat_lit 57)::(nat_lit 58)::(nat_lit 59)::(nat_lit 60)::(nat_lit 70)::(nat_lit 71)::(nat_lit 72)::(nat_lit 74)::(nat_lit 75)::(nat_lit 77)::(nat_lit 78)::(nat_lit 79)::(nat_lit 81)::(nat_lit 82)::(nat_lit 84)::(nat_lit 85)::(nat_lit 86)::(nat_lit 87)::(nat_lit 88)::(nat_lit 89)::(nat_lit 90)::(nat_lit 92)::(nat_lit 93)::(nat_lit 95)::(nat_lit 96)::(nat_lit 97)::(nat_lit 99)::(nat_lit 100)::(nat_lit 102)::(nat_lit 103)::(nat_lit 104)::(nat_lit 106)::(nat_lit 107)::(nat_lit 109)::(nat_lit 110)::(nat_lit 111)::(nat_lit 113)::(nat_lit 114)::(nat_lit 116)::(nat_lit 117)::(nat_lit 118)::(nat_lit 119)::(nat_lit 121)::(nat_lit 122)::(nat_lit 124)::(nat_lit 125)::(nat_lit 126)::(nat_lit 128)::(nat_lit 129)::(nat_lit 131)::(nat_lit 132)::(nat_lit 133)::(nat_lit 135)::(nat_lit 136)::(nat_lit 138)::(nat_lit 139)::(nat_lit 140)::(nat_lit 142)::(nat_lit 143)::(nat_lit 145)::(nat_lit 146)::(nat_lit 147)::(nat_lit 148)::(nat_lit 150)::(nat_lit 151)::(nat_lit 153)::(nat_lit 154)::(nat_lit 155)::(nat_lit 156)::(nat_lit 158)::(nat_lit 159)::(nat_lit 161)::(nat_lit 162)::(nat_lit 163)::(nat_lit 164)::(nat_lit 166)::(nat_lit 167)::(nat_lit 169)::(nat_lit 170)::(nat_lit 171)::(nat_lit 172)::(nat_lit 174)::(nat_lit 175)::(nat_lit 177)::(nat_lit 178)::(nat_lit 179)::(nat_lit 180)::(nat_lit 182)::(nat_lit 183)::(nat_lit 185)::(nat_lit 186)::(nat_lit 187)::(nat_lit 189)::(nat_lit 190)::(nat_lit 192)::(nat_lit 193)::(nat_lit 194)::(nat_lit 196)::(nat_lit 197)::(nat_lit 199)::(nat_lit 200)::(nat_lit 201)::(nat_lit 203)::(nat_lit 204)::(nat_lit 206)::(nat_lit 207)::(nat_lit 208)::(nat_lit 210)::(nat_lit 211)::(nat_lit 213)::(nat_lit 214)::(nat_lit 215)::(nat_lit 217)::(nat_lit 218)::(nat_lit 220)::(nat_lit 221)::(nat_lit 222)::(nat_lit 224)::(nat_lit 225)::(nat_lit 227)::(nat_lit 228)::(nat_lit 229)::(nat_lit 231)::(nat_lit 232)::(nat_lit 234)::(nat_lit 235)::(nat_lit 236)::(nat_lit 238)::(nat_lit 239)::(nat_lit 241)::(nat_lit 242)::(nat_lit 243)::(nat_lit 245)::(nat_lit 246)::(nat_lit 248)::(nat_lit 249)::(nat_lit 250)::(nat_lit 252)::(nat_lit 253)::(nat_lit 255)::(nat_lit 256)::(nat_lit 257)::(nat_lit 259)::(nat_lit 260)::(nat_lit 262)::(nat_lit 263)::(nat_lit 264)::(nat_lit 269)::(nat_lit 270)::(nat_lit 271)::(nat_lit 272)::(nat_lit 275)::(nat_lit 277)::(nat_lit 278)::(nat_lit 280)::(nat_lit 281)::(nat_lit 282)::(nat_lit 284)::(nat_lit 285)::(nat_lit 287)::(nat_lit 288)::(nat_lit 289)::(nat_lit 291)::(nat_lit 292)::(nat_lit 294)::(nat_lit 295)::(nat_lit 296)::(nat_lit 299)::(nat_lit 300)::(nat_lit 301)::(nat_lit 303)::(nat_lit 304)::(nat_lit 306)::(nat_lit 307)::[]) (fun _ => by kernel_rfl))
  case hw => w_witness2
  exact walkT1
end Mine

end Head
theorem PySem.Challenge.cw_oz0057_01_holds : PySem.Challenge.rw_oz0057_01.Holds := by
  exact Mine.head1

